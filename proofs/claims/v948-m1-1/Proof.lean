import JvmDerived
import JvmDerived.Pilot.@@N@@Statement
import JvmDerived.Pilot.@@N@@Code
set_option linter.unusedVariables false
set_option linter.unusedSimpArgs false
namespace Jvm.RoadKit
open Sem ClassFile Op Lib Jvm.Stand Jvm.Free Jvm.LawKit
section New
variable {p : Program} {l : Launch} {e : Env} {R : Room} {s : State} {m : MethodId} {args : Array Value} {below : List Frame} {meth : Method} {c : Code} {T : State} {locs : List Loc} {cells slots : Nat}
theorem retI (X : Stand p l e R s m args below meth c T locs cells slots) (hx : p.tables.exec = Jvm.exec) {pc : Nat} {Ls : Array Slot} {z : Int32} {rest : List Value} (hret : meth.sig.returnType = some .int) (hd : decode c.code pc = .ok (.ireturn, 1)) {fs : List Frame}
    (hl : ∀ (f : JFrame) (acts : List Action), f.method = m → f.locked = none → f.entered = [] → (doReturn e (T.setTop f) acts (some (.int z))).1 = T.setFrames fs) : Steps p.tables e below (T.setTop (mkF m pc Ls (.int z :: rest))) (T.setFrames fs) := by
  have hm' : T.vm.method? m = some meth := X.method'
  have hn : narrow .int (.int z) = .int z := rfl
  show Steps p.tables e below (T.setTop { method := m, pc := pc, locals := Ls, stack := _ :: rest, locked := none }) _
  jvm_step X.here [X.here.top, hx, hd, hm', hret, hn]
  first | (intro acts; rw [hl _ acts rfl rfl rfl]) | rw [hl _ _ rfl rfl rfl]
  exact Steps.refl _
end New
section Own
variable {p : Program} {l : Launch} {e : Env} {R : Room} {s : State} {m : MethodId} {args : Array Value} {below : List Frame} {meth : Method} {c : Code} {T A B : State} {locs : List Loc} {cells slots k n : Nat} {Q : Option Value → Heap → List Loc → Prop}
/-- from A the walk comes to its end, and Q holds there -/
def own_Go (p : Program) (e : Env) (below : List Frame) (s : State) (Q : Option Value → Heap → List Loc → Prop) (k n : Nat) (A : State) : Prop :=
  ∃ s₂ o, Steps p.tables e below A s₂ ∧ s₂.status = .running ∧ Ended s₂ below o ∧ ∃ v L, o = .returned v ∧ Q v s₂.heap L ∧ FrameEnd s o s₂ L k n
theorem own_st (h : ∀ t, Steps p.tables e below B t → Steps p.tables e below A t) (g : own_Go p e below s Q k n B) : own_Go p e below s Q k n A := by
  obtain ⟨s₂, o, h1, r⟩ := g
  exact ⟨s₂, o, h _ h1, r⟩
theorem own_tr (h : Steps p.tables e below A B) (g : own_Go p e below s Q k n B) : own_Go p e below s Q k n A := own_st (fun _ q => h.trans q) g
theorem own_end (X : Stand p l e R s m args below meth c T locs cells slots) (hlk : meth.locks = false) {v : Option Value} (hv : meth.sig.returnType = none → v = none) (hk : cells ≤ k) (hn : slots ≤ n) (hQ : Q v T.heap locs) {g : JFrame}
    (hgo : ∀ fs, (∀ (f : JFrame) (acts : List Action), f.method = m → f.locked = none → f.entered = [] → (doReturn e (T.setTop f) acts v).1 = T.setFrames fs) → Steps p.tables e below (T.setTop g) (T.setFrames fs)) : own_Go p e below s Q k n (T.setTop g) := by
  obtain ⟨fs, hr, hrun, hended, hW, hsame⟩ := X.leave hv hlk
  exact ⟨_, _, hgo fs hr, hrun, hended, v, locs, rfl, hQ, ⟨_, rfl⟩, hW, hsame.mono hk hn⟩
theorem own_retI (X : Stand p l e R s m args below meth c T locs cells slots) (hx : p.tables.exec = Jvm.exec) (hlk : meth.locks = false) {pc : Nat} {Ls : Array Slot} {z : Int32} {rest : List Value} (hret : meth.sig.returnType = some .int) (hd : decode c.code pc = .ok (.ireturn, 1)) (hk : cells ≤ k) (hn : slots ≤ n) (hQ : Q (some (.int z)) T.heap locs) :
    own_Go p e below s Q k n (T.setTop (mkF m pc Ls (.int z :: rest))) := own_end X hlk (fun h => by rw [hret] at h; cases h) hk hn hQ fun fs hr => retI X hx hret hd hr
theorem own_retN (X : Stand p l e R s m args below meth c T locs cells slots) (hx : p.tables.exec = Jvm.exec) (hlk : meth.locks = false) {pc : Nat} {Ls : Array Slot} {z z' : Int32} {rest : List Value} {t : FieldType} (hret : meth.sig.returnType = some t) (ht : t = .boolean ∨ t = .byte ∨ t = .char ∨ t = .short) (hz : nar t z = z') (hd : decode c.code pc = .ok (.ireturn, 1)) (hk : cells ≤ k) (hn : slots ≤ n) (hQ : Q (some (.int z')) T.heap locs) :
    own_Go p e below s Q k n (T.setTop (mkF m pc Ls (.int z :: rest))) := own_end X hlk (v := some (.int (nar t z))) (fun h => by rw [hret] at h; cases h) hk hn (hz ▸ hQ) fun fs hr => retN X hx hret ht hd hr
theorem own_retJ (X : Stand p l e R s m args below meth c T locs cells slots) (hx : p.tables.exec = Jvm.exec) (hlk : meth.locks = false) {pc : Nat} {Ls : Array Slot} {z : Int64} {rest : List Value} (hret : meth.sig.returnType = some .long) (hd : decode c.code pc = .ok (.lreturn, 1)) (hk : cells ≤ k) (hn : slots ≤ n) (hQ : Q (some (.long z)) T.heap locs) :
    own_Go p e below s Q k n (T.setTop (mkF m pc Ls (.long z :: rest))) := own_end X hlk (fun h => by rw [hret] at h; cases h) hk hn hQ fun fs hr => retOut X hx hret rfl (Or.inr (Or.inl ⟨rfl, rfl, _, rfl⟩)) hd hr
theorem own_retA (X : Stand p l e R s m args below meth c T locs cells slots) (hx : p.tables.exec = Jvm.exec) (hlk : meth.locks = false) {pc : Nat} {Ls : Array Slot} {w : Value} {t : FieldType} {rest : List Value} (hret : meth.sig.returnType = some t) (hw : w.isRef = true) (hd : decode c.code pc = .ok (.areturn, 1)) (hk : cells ≤ k) (hn : slots ≤ n) (hQ : Q (some w) T.heap locs) (ht : t.isReference = true := by rfl) :
    own_Go p e below s Q k n (T.setTop (mkF m pc Ls (w :: rest))) := own_end X hlk (fun h => by rw [hret] at h; cases h) hk hn hQ fun fs hr => retOut X hx hret (by cases w <;> first | (cases hw; done) | (cases t <;> first | (cases ht; done) | rfl)) (Or.inr (Or.inr (Or.inr (Or.inr ⟨rfl, ht, hw⟩)))) hd hr
theorem own_ret0 (X : Stand p l e R s m args below meth c T locs cells slots) (hx : p.tables.exec = Jvm.exec) (hlk : meth.locks = false) {pc : Nat} {Ls : Array Slot} (hret : meth.sig.returnType = none) (hd : decode c.code pc = .ok (.return_, 1)) (hk : cells ≤ k) (hn : slots ≤ n) (hQ : Q none T.heap locs) :
    own_Go p e below s Q k n (T.setTop (mkF m pc Ls [])) := own_end X hlk (fun _ => rfl) hk hn hQ fun fs hr => X.returnOut hx hret hd hr
end Own
theorem own_narR {C : String} {v : Value} (h : v.isRef = true) : narrow (.object C) v = v := by cases v <;> first | rfl | (cases h; done)
theorem own_fitR {C : String} {v : Value} (h : v.isRef = true) : fits (.object C) v = true := by cases v <;> first | rfl | (cases h; done)
theorem own_pad (n : Nat) (d : Value) (i : Nat) : (List.replicate n d).getD i d = ([] : List Value).getD i d := by
  have h := pad_rep [] d n i
  simpa using h
end Jvm.RoadKit
namespace Jvm.Pilot.@@N@@
open Jvm Jvm.ClassFile Sem Op Lib Jvm.Free Jvm.Stand Jvm.LawKit Jvm.RoadKit Bundle Jvm.Pilot.@@N@@.Jvm.D
theorem own_eqV {args : Array Value} {first s : State} {o : Option Outcome} {idx : List Nat} {t u : Term} {w : Value} (h : (Cond.eq t u).value args first o s idx = some true) (hu : u.eval args first o idx s = some w) : t.eval args first o idx s = some w := by
  simp only [Cond.value, hu] at h
  cases ht : t.eval args first o idx s with
  | none => simp [ht] at h
  | some v => cases v <;> cases w <;> simp_all

theorem own_NSroot {Z : State} {a0 : Array Value} {O K : String} {n : Nat} (w : (Cond.noSuperclass O).before a0 Z = true) (wi : (Cond.instantiable K n).before a0 Z = true) (hn : O ≠ K) : NS Z O K := by
  obtain ⟨c, k, h1, h2, h3, -, -⟩ := Cond.noSuperclass_spec w
  obtain ⟨t, k', g1, -⟩ := Cond.instantiable_spec wi
  have ne := ids_ne h1 g1 hn
  refine ⟨c, t, h1, g1, fun fuel => ?_⟩
  cases fuel with
  | zero => rfl
  | succ f => simp [Vm.isSubclassAux, ne, h2, h3]
theorem own_no {Z : State} {a0 : Array Value} {C S K : String} {n : Nat} (w : (Cond.superclass C S).before a0 Z = true) (wi : (Cond.instantiable K n).before a0 Z = true) (nn : NS Z C K) (hn : C ≠ K) : ∃ c t, Z.vm.findClass C = some c ∧ Z.vm.findClass K = some t ∧ Z.vm.assignable c t = false := by
  obtain ⟨c, t, h0, g0, n3⟩ := nn
  obtain ⟨p, k, kp, h1, h2, h3, h4, h5, -, h7⟩ := Cond.superclass_spec h0 w
  obtain ⟨t', k', g1, g2, g3, g4, -⟩ := Cond.instantiable_spec wi
  cases g0.symm.trans g1
  have g7 : k'.isInterface = false := by
    rw [Bool.or_eq_false_iff] at g4
    exact g4.1
  have ne := ids_ne h0 g0 hn
  refine ⟨c, t, h0, g0, ?_⟩
  show Z.vm.assignableAux (255 + 1) c t = false
  simp [Vm.assignableAux, ne, h2, g2, h5, g3, g7, Vm.isSubclass, n3]
def own_BoxJ (Z : State) (aC : Addr) : Prop := ∃ cl : Cell, Arr Z Z.heap aC cl (.object "java/lang/Long") ∧ cl.slots.size = 256 ∧ ∀ j : Int32, ¬ (j < 0 ∨ 256 ≤ j.toNatClampNeg) → ∃ r, cl.slots[j.toNatClampNeg]? = some (.ref r) ∧ Exa Z Z.heap r "java/lang/Long" ∧ Fld Z Z.heap r "java/lang/Long" "value" "J" (.long (j - 128).toInt64)
theorem own_boxJ {args : Array Value} {s : State} {aC : Addr} (ev : (Term.static "java/lang/Long$LongCache" "cache" "[Ljava/lang/Long;").eval args s none [] s = some (.ref aC)) (h2 : (Cond.arrayOf (Term.static "java/lang/Long$LongCache" "cache" "[Ljava/lang/Long;") (.object "java/lang/Long")).before args s = true) (h4 : (Cond.eq (.length (Term.static "java/lang/Long$LongCache" "cache" "[Ljava/lang/Long;")) (.int 256)).before args s = true)
    (h5 : (Cond.all (Term.static "java/lang/Long$LongCache" "cache" "[Ljava/lang/Long;") (.and (.exactly (.elem (Term.static "java/lang/Long$LongCache" "cache" "[Ljava/lang/Long;") (.index 0)) "java/lang/Long") (.eq (.field (.elem (Term.static "java/lang/Long$LongCache" "cache" "[Ljava/lang/Long;") (.index 0)) "java/lang/Long" "value" "J") (.op1 .i2l (.sub (.index 0) (.int 128)))))).before args s = true) : own_BoxJ s aC := by
  obtain ⟨cl, A⟩ := Arr.start ev (Cond.before_iff.mp h2)
  have hat : s.arrayAt? aC = some cl := IntBox.arrayAt_of A.1 A.2.1 A.2.2
  obtain ⟨hsz, hsize⟩ := IntBox.length_fwd h4 ev A.1 A.2.1 A.2.2
  have h256 : cl.slots.size = 256 := by
    have e := len_toInt hsz
    rw [hsize] at e
    have e2 : (256 : Int32).toInt = 256 := by decide
    omega
  have hall := Cond.all_elim ev hat (Cond.before_iff.mp h5)
  refine ⟨cl, A, h256, fun j hj => ?_⟩
  have hn : ¬ j < 0 := fun q => hj (Or.inl q)
  have hlt : j.toNatClampNeg < cl.slots.size := by rw [h256]; exact Nat.lt_of_not_le fun q => hj (Or.inr q)
  obtain ⟨g1, g2⟩ := and_e (hall _ hlt)
  obtain ⟨r, er⟩ := exa_v g1
  have ev' : (Term.static "java/lang/Long$LongCache" "cache" "[Ljava/lang/Long;").eval args s none [j.toNatClampNeg] s = some (.ref aC) := ev
  have ei : (Term.index 0).eval args s none [j.toNatClampNeg] s = some (.int j) := idx_at hn
  have el := elem_f (t := (Term.static "java/lang/Long$LongCache" "cache" "[Ljava/lang/Long;")) (a := .index 0) ev' ei hat hn
  have hr : cl.slots[j.toNatClampNeg]? = some (.ref r) := el.symm.trans er
  have es : (Term.sub (.index 0) (.int 128)).eval args s none [j.toNatClampNeg] s = some (.int (j - 128)) := by simp [Term.eval, (back32 hn).1]
  have ef := own_eqV g2 (w := .long (j - 128).toInt64) ((op1_f es).trans rfl)
  exact ⟨r, hr, exa_at er g1, Fld.start ((fld_at er).symm.trans ef)⟩
theorem own_bkJ (w : Int64) (h1 : ¬ w < -128) (h2 : ¬ 127 < w) : ((w.toInt32 + 128) - 128).toInt64 = w := by
  have e : (w.toInt32 + 128) - 128 = w.toInt32 := by simp
  rw [e]
  refine XT.narrowOk ⟨?_, ?_⟩
  · rw [Int64.lt_iff_toInt_lt] at h1
    have : (-128 : Int64).toInt = -128 := by decide
    omega
  · rw [Int64.lt_iff_toInt_lt] at h2
    have : (127 : Int64).toInt = 127 := by decide
    omega
theorem own_d_jdk_18_method_1_code_0 : decode jdk_18_method_1_code 0 = .ok (.aload_n 0, 1) := by decide +kernel
theorem own_d_jdk_18_method_1_code_1 : decode jdk_18_method_1_code 1 = .ok (.invokespecial 1, 3) := by decide +kernel
theorem own_d_jdk_18_method_1_code_4 : decode jdk_18_method_1_code 4 = .ok (.return_, 1) := by decide +kernel
theorem own_pn0 : plainFor (⟨"java/lang/Number", "<init>", "()V"⟩ : MethodName) = true := by decide +kernel
def own_rm_number_Q (Z : State) (r : Addr) (h0 : Heap) (n0 : Nat) (v : Option Value) (h : Heap) (L : List Loc) : Prop := Fr n0 L ∧ v = none ∧ h = h0
theorem own_rm_number_ef (m : MethodId) (r : Addr) : entryFrame m #[(.ref r)] 1 = mkF m 0 #[.val (.ref r)] [] := by first | (simp [entryFrame, mkF, argsToLocals, Value.category]; done) | rfl
set_option maxRecDepth 65536 in
set_option maxHeartbeats 40000000 in
theorem own_rm_number (l : Launch) (Z : State) (a0 : Array Value) (hw : ∀ d ∈ tables_1, d.before a0 Z = true) (ws : List Jvm.Cond) (r : Addr) (h0 : Heap) (n0 : Nat) (Z0 : n0 ≤ h0.size)  :
    MetFree l (⟨"java/lang/Number", "<init>", "()V"⟩ : MethodName) (head1 (Jvm.Cond.code (⟨"java/lang/Number", "<init>", "()V"⟩ : MethodName) jdk_18_method_1_code 1 none :: ws) ({ frames := 1, cells := 0, slots := 0, locals := 12 } : Room)) (fun a U => a = #[(.ref r)] ∧ Z.Warmed39 U.vm ∧ U.heap = h0) (fun _ _ _ _ _ => True) (fun _ U o U' => ∃ v L, o = .returned v ∧ own_rm_number_Q Z r h0 n0 v U'.heap L ∧ FrameEnd U o U' L ({ frames := 1, cells := 0, slots := 0, locals := 12 } : Room).cells ({ frames := 1, cells := 0, slots := 0, locals := 12 } : Room).slots) := by
  refine MetFree.of_bodySF own_pn0 hisR ?_
  intro p e s m args below meth c s₁ Bd hml0 hP hK
  obtain ⟨rfl, hZ, hh⟩ := hP
  have hx := Bd.exec
  have hby := Bd.bytes
  have hml : c.maxLocals = 1 := hml0
  have hlk := BodyLoose.notSynchronized Bd
  have hown : s.vm.findClass "java/lang/Number" = some m.cls := findClass_of_methodNamed Bd.named
  have hnm := (name_of_methodNamed Bd.named Bd.method).1
  have X0 : Stand p l e ({ frames := 1, cells := 0, slots := 0, locals := 12 } : Room) s m #[(.ref r)] below meth c s₁ [] 0 0 := Stand.of_body Bd
  have e0 : s₁.heap = h0 := by rw [← hh, Bd.state]; rfl
  have N0 := Fr.nil n0
  show own_Go p e below s (own_rm_number_Q Z r h0 n0) ({ frames := 1, cells := 0, slots := 0, locals := 12 } : Room).cells ({ frames := 1, cells := 0, slots := 0, locals := 12 } : Room).slots (s₁.setTop (entryFrame m #[(.ref r)] 1))
  rw [own_rm_number_ef]
  show own_Go p e below s _ _ _ (s₁.setTop (mkF m 0 #[.val (.ref r)] []))
  refine own_st (fun _ k => XS.aloadN X0.here hx rfl (hb hby own_d_jdk_18_method_1_code_0) rfl rfl k) ?_
  show own_Go p e below s _ _ _ (s₁.setTop (mkF m 1 #[.val (.ref r)] [(.ref r)]))
  obtain ⟨T1, X1, e1, st1⟩ := initO X0 hx hZ hown (hw _ (List.mem_of_getElem? (i := 37) rfl)) (hw _ (List.mem_of_getElem? (i := 7) rfl)) (hw _ (List.mem_of_getElem? (i := 8) rfl)) e0 (g := (mkF m 1 #[.val (.ref r)] [(.ref r)])) rfl (by rw [hml]; rfl) rfl (hb hby own_d_jdk_18_method_1_code_1) (by decide) (W := 0) (by show 2 * 0 + _ ≤ _; exact Nat.le_of_eq rfl) (by decide)
  refine own_st st1 ?_
  show own_Go p e below s _ _ _ (T1.setTop (mkF m 4 #[.val (.ref r)] []))
  refine own_ret0 X1 hx hlk Bd.returns (hb hby own_d_jdk_18_method_1_code_4) (by decide) (by decide) ?_
  rw [e1]
  exact ⟨N0, rfl, rfl⟩
theorem own_d_jdk_35_method_26_code_0 : decode jdk_35_method_26_code 0 = .ok (.aload_n 0, 1) := by decide +kernel
theorem own_d_jdk_35_method_26_code_1 : decode jdk_35_method_26_code 1 = .ok (.invokespecial 270, 3) := by decide +kernel
theorem own_d_jdk_35_method_26_code_4 : decode jdk_35_method_26_code 4 = .ok (.aload_n 0, 1) := by decide +kernel
theorem own_d_jdk_35_method_26_code_5 : decode jdk_35_method_26_code 5 = .ok (.lload_n 1, 1) := by decide +kernel
theorem own_d_jdk_35_method_26_code_6 : decode jdk_35_method_26_code 6 = .ok (.putfield 273, 3) := by decide +kernel
theorem own_d_jdk_35_method_26_code_9 : decode jdk_35_method_26_code 9 = .ok (.return_, 1) := by decide +kernel
theorem own_pn1 : plainFor (⟨"java/lang/Long", "<init>", "(J)V"⟩ : MethodName) = true := by decide +kernel
theorem own_pd0 : parseMethodDescriptor "()V" = some ⟨[], none⟩ := by decide +kernel
def own_rm_boxinitJ_Q (Z : State) (r : Addr) (p1 : Int64) (h0 : Heap) (n0 : Nat) (v : Option Value) (h : Heap) (L : List Loc) : Prop := Fr n0 L ∧ v = none ∧ Keep h0 h [r] ∧ Exa Z h r "java/lang/Long" ∧ Fld Z h r "java/lang/Long" "value" "J" (.long p1)
theorem own_rm_boxinitJ_ef (m : MethodId) (r : Addr) (p1 : Int64) : entryFrame m #[(.ref r), (.long p1)] 3 = mkF m 0 #[.val (.ref r), .val (.long p1), .second] [] := by first | (simp [entryFrame, mkF, argsToLocals, Value.category]; done) | rfl
set_option maxRecDepth 65536 in
set_option maxHeartbeats 40000000 in
theorem own_rm_boxinitJ (l : Launch) (Z : State) (a0 : Array Value) (hw : ∀ d ∈ tables_1, d.before a0 Z = true) (ws : List Jvm.Cond) (r : Addr) (p1 : Int64) (h0 : Heap) (n0 : Nat) (Z0 : n0 ≤ h0.size) (E1 : Exa Z h0 r "java/lang/Long") (F1 : Fld Z h0 r "java/lang/Long" "value" "J" (.long (0 : Int64))) (g1 : n0 ≤ r) :
    MetFree l (⟨"java/lang/Long", "<init>", "(J)V"⟩ : MethodName) (head1 (Jvm.Cond.code (⟨"java/lang/Long", "<init>", "(J)V"⟩ : MethodName) jdk_35_method_26_code 3 none :: ws) ({ frames := 2, cells := 0, slots := 0, locals := 24 } : Room)) (fun a U => a = #[(.ref r), (.long p1)] ∧ Z.Warmed39 U.vm ∧ U.heap = h0) (fun _ _ _ _ _ => True) (fun _ U o U' => ∃ v L, o = .returned v ∧ own_rm_boxinitJ_Q Z r p1 h0 n0 v U'.heap L ∧ FrameEnd U o U' L ({ frames := 2, cells := 0, slots := 0, locals := 24 } : Room).cells ({ frames := 2, cells := 0, slots := 0, locals := 24 } : Room).slots) := by
  refine MetFree.of_bodySF own_pn1 hisR ?_
  intro p e s m args below meth c s₁ Bd hml0 hP hK
  obtain ⟨rfl, hZ, hh⟩ := hP
  have hx := Bd.exec
  have hby := Bd.bytes
  have hml : c.maxLocals = 3 := hml0
  have hlk := BodyLoose.notSynchronized Bd
  have hown : s.vm.findClass "java/lang/Long" = some m.cls := findClass_of_methodNamed Bd.named
  have hnm := (name_of_methodNamed Bd.named Bd.method).1
  have X0 : Stand p l e ({ frames := 2, cells := 0, slots := 0, locals := 24 } : Room) s m #[(.ref r), (.long p1)] below meth c s₁ [] 0 0 := Stand.of_body Bd
  have e0 : s₁.heap = h0 := by rw [← hh, Bd.state]; rfl
  have N0 := Fr.nil n0
  have Kp0 : Keep h0 h0 [r] := Keep.refl _ _
  show own_Go p e below s (own_rm_boxinitJ_Q Z r p1 h0 n0) ({ frames := 2, cells := 0, slots := 0, locals := 24 } : Room).cells ({ frames := 2, cells := 0, slots := 0, locals := 24 } : Room).slots (s₁.setTop (entryFrame m #[(.ref r), (.long p1)] 3))
  rw [own_rm_boxinitJ_ef]
  show own_Go p e below s _ _ _ (s₁.setTop (mkF m 0 #[.val (.ref r), .val (.long p1), .second] []))
  refine own_st (fun _ k => XS.aloadN X0.here hx rfl (hb hby own_d_jdk_35_method_26_code_0) rfl rfl k) ?_
  show own_Go p e below s _ _ _ (s₁.setTop (mkF m 1 #[.val (.ref r), .val (.long p1), .second] [(.ref r)]))
  obtain ⟨_, _, ⟨T2, L2, k2, n2⟩, -, X2, ⟨Lc2, hQ2, l2, y2, z2⟩, st2⟩ := X0.specialBack hx (y := (⟨"java/lang/Number", "<init>", "()V"⟩ : MethodName)) rfl hown (mvT hZ (hw _ (List.mem_of_getElem? (i := 31) rfl))) (mvT hZ (hw _ (List.mem_of_getElem? (i := 32) rfl))) (mvT hZ (hw _ (List.mem_of_getElem? (i := 36) rfl))) (by decide) (backOf (W := 0) (own_rm_number l Z a0 hw [] r h0 n0 Z0 ) hZ (hw _ (List.mem_of_getElem? (i := 36) rfl)) (hw _ (List.mem_of_getElem? (i := 35) rfl)) (by decide) (by decide)) (g := (mkF m 1 #[.val (.ref r), .val (.long p1), .second] [(.ref r)])) rfl (by rw [hml]; rfl) (Steps.refl _) (a := r) (argsL := []) (rest := []) (lenOf own_pd0 rfl) rfl (by show 2 * 0 + _ ≤ _; exact Nat.le_of_eq rfl) (hb hby own_d_jdk_35_method_26_code_1) (fun _ _ => ⟨rfl, e0, (by decide : 0 + 0 ≤ _), (by decide : 0 + 0 ≤ _)⟩)
  dsimp only [Pt.U, Pt.locs, Pt.cells, Pt.slots] at X2 l2 y2 z2 st2 hQ2
  subst l2 y2 z2
  obtain ⟨N2q, rfl, eh2⟩ := hQ2
  have N3 := Fr.app N0 N2q
  refine own_tr st2 ?_
  show own_Go p e below s _ _ _ (T2.setTop (mkF m 4 #[.val (.ref r), .val (.long p1), .second] []))
  refine own_st (fun _ k => XS.aloadN X2.here hx rfl (hb hby own_d_jdk_35_method_26_code_4) rfl rfl k) ?_
  show own_Go p e below s _ _ _ (T2.setTop (mkF m 5 #[.val (.ref r), .val (.long p1), .second] [(.ref r)]))
  refine own_st (fun _ k => XT.lloadN X2.here hx rfl (hb hby own_d_jdk_35_method_26_code_5) rfl k) ?_
  show own_Go p e below s _ _ _ (T2.setTop (mkF m 6 #[.val (.ref r), .val (.long p1), .second] [(.long p1), (.ref r)]))
  obtain ⟨T4, h4, X4, e4, W4, st4⟩ := putF X2 hx hZ hown (host := "") (Or.inl (hw _ (List.mem_of_getElem? (i := 38) rfl))) Via.refl eh2 F1 E1 (Or.inr ⟨(hw _ (List.mem_of_getElem? (i := 39) rfl)), rfl, hnm⟩) (hw _ (List.mem_of_getElem? (i := 26) rfl)) (ty := .long) (by decide) rfl rfl (g := (mkF m 6 #[.val (.ref r), .val (.long p1), .second] [(.long p1), (.ref r)])) rfl rfl (hb hby own_d_jdk_35_method_26_code_6)
  refine own_st st4 ?_
  have N5 := Fr.snoc X4 N3 g1
  have F6 : Fld Z h4 r "java/lang/Long" "value" "J" (.long p1) := F1.same W4
  have Zs7 : n0 ≤ h4.size := Nat.le_trans Z0 (Nat.le_of_eq W4.size.symm)
  have Kp8 : Keep h0 h4 [r] := Kp0.wr W4 (Or.inl (List.mem_of_getElem? (i := 0) rfl))
  show own_Go p e below s _ _ _ (T4.setTop (mkF m 9 #[.val (.ref r), .val (.long p1), .second] []))
  have F9 : Exa Z h4 r "java/lang/Long" := (E1.wr W4)
  refine own_ret0 X4 hx hlk Bd.returns (hb hby own_d_jdk_35_method_26_code_9) (by decide) (by decide) ?_
  rw [e4]
  exact ⟨N5, rfl, Kp8, F9, F6⟩
theorem own_d_jdk_35_method_24_code_0 : decode jdk_35_method_24_code 0 = .ok (.sipush 128, 3) := by decide +kernel
theorem own_d_jdk_35_method_24_code_3 : decode jdk_35_method_24_code 3 = .ok (.istore_n 2, 1) := by decide +kernel
theorem own_d_jdk_35_method_24_code_4 : decode jdk_35_method_24_code 4 = .ok (.lload_n 0, 1) := by decide +kernel
theorem own_d_jdk_35_method_24_code_5 : decode jdk_35_method_24_code 5 = .ok (.ldc2_w 230, 3) := by decide +kernel
theorem own_d_jdk_35_method_24_code_8 : decode jdk_35_method_24_code 8 = .ok (.lcmp, 1) := by decide +kernel
theorem own_d_jdk_35_method_24_code_9 : decode jdk_35_method_24_code 9 = .ok (.ifCond .lt 22, 3) := by decide +kernel
theorem own_d_jdk_35_method_24_code_12 : decode jdk_35_method_24_code 12 = .ok (.lload_n 0, 1) := by decide +kernel
theorem own_d_jdk_35_method_24_code_13 : decode jdk_35_method_24_code 13 = .ok (.ldc2_w 232, 3) := by decide +kernel
theorem own_d_jdk_35_method_24_code_16 : decode jdk_35_method_24_code 16 = .ok (.lcmp, 1) := by decide +kernel
theorem own_d_jdk_35_method_24_code_17 : decode jdk_35_method_24_code 17 = .ok (.ifCond .gt 14, 3) := by decide +kernel
theorem own_d_jdk_35_method_24_code_20 : decode jdk_35_method_24_code 20 = .ok (.getstatic 234, 3) := by decide +kernel
theorem own_d_jdk_35_method_24_code_23 : decode jdk_35_method_24_code 23 = .ok (.lload_n 0, 1) := by decide +kernel
theorem own_d_jdk_35_method_24_code_24 : decode jdk_35_method_24_code 24 = .ok (.l2i, 1) := by decide +kernel
theorem own_d_jdk_35_method_24_code_25 : decode jdk_35_method_24_code 25 = .ok (.sipush 128, 3) := by decide +kernel
theorem own_d_jdk_35_method_24_code_28 : decode jdk_35_method_24_code 28 = .ok (.iadd, 1) := by decide +kernel
theorem own_d_jdk_35_method_24_code_29 : decode jdk_35_method_24_code 29 = .ok (.aaload, 1) := by decide +kernel
theorem own_d_jdk_35_method_24_code_30 : decode jdk_35_method_24_code 30 = .ok (.areturn, 1) := by decide +kernel
theorem own_d_jdk_35_method_24_code_31 : decode jdk_35_method_24_code 31 = .ok (.new 1, 3) := by decide +kernel
theorem own_d_jdk_35_method_24_code_34 : decode jdk_35_method_24_code 34 = .ok (.dup, 1) := by decide +kernel
theorem own_d_jdk_35_method_24_code_35 : decode jdk_35_method_24_code 35 = .ok (.lload_n 0, 1) := by decide +kernel
theorem own_d_jdk_35_method_24_code_36 : decode jdk_35_method_24_code 36 = .ok (.invokespecial 240, 3) := by decide +kernel
theorem own_d_jdk_35_method_24_code_39 : decode jdk_35_method_24_code 39 = .ok (.areturn, 1) := by decide +kernel
theorem own_pn2 : plainFor (⟨"java/lang/Long", "valueOf", "(J)Ljava/lang/Long;"⟩ : MethodName) = true := by decide +kernel
theorem own_pd1 : parseMethodDescriptor "(J)V" = some ⟨[.long], none⟩ := by decide +kernel
def own_rm_valueOfJ_Q (Z : State) (p1 : Int64) (a_cacheJ : Addr) (h0 : Heap) (n0 : Nat) (v : Option Value) (h : Heap) (L : List Loc) : Prop := ∃ r : Addr, Fr n0 L ∧ v = some (.ref r) ∧ Keep h0 h [] ∧ Exa Z h r "java/lang/Long" ∧ Fld Z h r "java/lang/Long" "value" "J" (.long p1)
theorem own_rm_valueOfJ_ef (m : MethodId) (p1 : Int64) : entryFrame m #[(.long p1)] 3 = mkF m 0 #[.val (.long p1), .second, .unset] [] := by first | (simp [entryFrame, mkF, argsToLocals, Value.category]; done) | rfl
set_option maxRecDepth 65536 in
set_option maxHeartbeats 40000000 in
theorem own_rm_valueOfJ (l : Launch) (Z : State) (a0 : Array Value) (hw : ∀ d ∈ tables_1, d.before a0 Z = true) (ws : List Jvm.Cond) (p1 : Int64) (a_cacheJ : Addr) (h0 : Heap) (n0 : Nat) (Z0 : n0 ≤ h0.size) (O0 : Old Z n0 h0) (S_cacheJ : Sta Z Z.heap "java/lang/Long$LongCache" "cache" "[Ljava/lang/Long;" (.ref a_cacheJ)) (BxJ : own_BoxJ Z a_cacheJ) :
    MetFree l (⟨"java/lang/Long", "valueOf", "(J)Ljava/lang/Long;"⟩ : MethodName) (head1 (Jvm.Cond.code (⟨"java/lang/Long", "valueOf", "(J)Ljava/lang/Long;"⟩ : MethodName) jdk_35_method_24_code 3 (some (.object "java/lang/Long")) :: ws) ({ frames := 3, cells := 1, slots := 1, locals := 39 } : Room)) (fun a U => a = #[(.long p1)] ∧ Z.Warmed39 U.vm ∧ U.heap = h0) (fun _ _ _ _ _ => True) (fun _ U o U' => ∃ v L, o = .returned v ∧ own_rm_valueOfJ_Q Z p1 a_cacheJ h0 n0 v U'.heap L ∧ FrameEnd U o U' L ({ frames := 3, cells := 1, slots := 1, locals := 39 } : Room).cells ({ frames := 3, cells := 1, slots := 1, locals := 39 } : Room).slots) := by
  refine MetFree.of_bodySF own_pn2 hisR ?_
  intro p e s m args below meth c s₁ Bd hml0 hP hK
  obtain ⟨rfl, hZ, hh⟩ := hP
  have hx := Bd.exec
  have hby := Bd.bytes
  have hml : c.maxLocals = 3 := hml0
  have hlk := BodyLoose.notSynchronized Bd
  have hown : s.vm.findClass "java/lang/Long" = some m.cls := findClass_of_methodNamed Bd.named
  have hnm := (name_of_methodNamed Bd.named Bd.method).1
  have X0 : Stand p l e ({ frames := 3, cells := 1, slots := 1, locals := 39 } : Room) s m #[(.long p1)] below meth c s₁ [] 0 0 := Stand.of_body Bd
  have e0 : s₁.heap = h0 := by rw [← hh, Bd.state]; rfl
  have N0 := Fr.nil n0
  have Kp0 : Keep h0 h0 [] := Keep.refl _ _
  show own_Go p e below s (own_rm_valueOfJ_Q Z p1 a_cacheJ h0 n0) ({ frames := 3, cells := 1, slots := 1, locals := 39 } : Room).cells ({ frames := 3, cells := 1, slots := 1, locals := 39 } : Room).slots (s₁.setTop (entryFrame m #[(.long p1)] 3))
  rw [own_rm_valueOfJ_ef]
  show own_Go p e below s _ _ _ (s₁.setTop (mkF m 0 #[.val (.long p1), .second, .unset] []))
  refine own_st (fun _ k => XT.sipushV X0.here hx rfl (128 : Int32) (hb hby own_d_jdk_35_method_24_code_0) (by decide) k) ?_
  show own_Go p e below s _ _ _ (s₁.setTop (mkF m 3 #[.val (.long p1), .second, .unset] [(.int (128 : Int32))]))
  refine own_st (fun _ k => XS.istoreN X0.here hx rfl (hb hby own_d_jdk_35_method_24_code_3) rfl (l' := #[.val (.long p1), .second, .val (.int (128 : Int32))]) rfl k) ?_
  show own_Go p e below s _ _ _ (s₁.setTop (mkF m 4 #[.val (.long p1), .second, .val (.int (128 : Int32))] []))
  refine own_st (fun _ k => XT.lloadN X0.here hx rfl (hb hby own_d_jdk_35_method_24_code_4) rfl k) ?_
  show own_Go p e below s _ _ _ (s₁.setTop (mkF m 5 #[.val (.long p1), .second, .val (.int (128 : Int32))] [(.long p1)]))
  refine own_st (fun _ k => X0.ldc2J hx hown (mvT hZ (hw _ (List.mem_of_getElem? (i := 24) rfl))) rfl (hb hby own_d_jdk_35_method_24_code_5) k) ?_
  show own_Go p e below s _ _ _ (s₁.setTop (mkF m 8 #[.val (.long p1), .second, .val (.int (128 : Int32))] [(.long (-128 : Int64)), (.long p1)]))
  refine own_st (fun _ k => XT.lcmp X0.here hx rfl (hb hby own_d_jdk_35_method_24_code_8) rfl k) ?_
  show own_Go p e below s _ _ _ (s₁.setTop (mkF m 9 #[.val (.long p1), .second, .val (.int (128 : Int32))] [(.int (XT.cmpL p1 (-128 : Int64)))]))
  by_cases hc10 : p1 < (-128 : Int64)
  · refine own_st (fun _ k => XS.ifYes X0.here hx rfl (pc0 := 9) (pc' := 31) rfl (hb hby own_d_jdk_35_method_24_code_9) rfl (XT.ll_lt_t hc10) (by decide) (by decide) k) ?_
    show own_Go p e below s _ _ _ (s₁.setTop (mkF m 31 #[.val (.long p1), .second, .val (.int (128 : Int32))] []))
    obtain ⟨T11, h11, X11, e11, E11, A11, D11, -, st11⟩ := newO X0 hx hZ hown (hw _ (List.mem_of_getElem? (i := 25) rfl)) (hw _ (List.mem_of_getElem? (i := 26) rfl)) (hw _ (List.mem_of_getElem? (i := 22) rfl)) e0 (g := (mkF m 31 #[.val (.long p1), .second, .val (.int (128 : Int32))] [])) rfl (hb hby own_d_jdk_35_method_24_code_31) (by decide) (by decide)
    obtain ⟨b11, g11⟩ : ∃ z, z = h0.size := ⟨_, rfl⟩
    rw [← g11] at A11 D11 st11
    refine own_st st11 ?_
    have Zs12 : n0 ≤ h11.size := Nat.le_trans Z0 E11.1
    have Kp13 : Keep h0 h11 [] := Kp0.ext E11
    have g14 : n0 ≤ b11 := Nat.le_trans Z0 (Nat.le_of_eq g11.symm)
    have sz15 : h0.size ≤ b11 := Nat.le_trans Kp0.1 (Nat.le_of_eq g11.symm)
    have F16 : Fld Z h11 b11 "java/lang/Long" "value" "J" (.long (0 : Int64)) := D11 (Or.inr (hw _ (List.mem_of_getElem? (i := 39) rfl))) (ty := .long) (by decide)
    show own_Go p e below s _ _ _ (T11.setTop (mkF m 34 #[.val (.long p1), .second, .val (.int (128 : Int32))] [(.ref b11)]))
    refine own_st (fun _ k => XS.dup X11.here hx rfl (hb hby own_d_jdk_35_method_24_code_34) rfl rfl k) ?_
    show own_Go p e below s _ _ _ (T11.setTop (mkF m 35 #[.val (.long p1), .second, .val (.int (128 : Int32))] [(.ref b11), (.ref b11)]))
    refine own_st (fun _ k => XT.lloadN X11.here hx rfl (hb hby own_d_jdk_35_method_24_code_35) rfl k) ?_
    show own_Go p e below s _ _ _ (T11.setTop (mkF m 36 #[.val (.long p1), .second, .val (.int (128 : Int32))] [(.long p1), (.ref b11), (.ref b11)]))
    obtain ⟨_, _, ⟨T17, L17, k17, n17⟩, -, X17, ⟨Lc17, hQ17, l17, y17, z17⟩, st17⟩ := X11.specialBack hx (y := (⟨"java/lang/Long", "<init>", "(J)V"⟩ : MethodName)) rfl hown (mvT hZ (hw _ (List.mem_of_getElem? (i := 27) rfl))) (mvT hZ (hw _ (List.mem_of_getElem? (i := 28) rfl))) (mvT hZ (hw _ (List.mem_of_getElem? (i := 30) rfl))) (by decide) (backOf (W := 1) (own_rm_boxinitJ l Z a0 hw [] b11 p1 h11 n0 Zs12 A11 F16 g14) hZ (hw _ (List.mem_of_getElem? (i := 30) rfl)) (hw _ (List.mem_of_getElem? (i := 22) rfl)) (by decide) (by decide)) (g := (mkF m 36 #[.val (.long p1), .second, .val (.int (128 : Int32))] [(.long p1), (.ref b11), (.ref b11)])) rfl (by rw [hml]; rfl) (Steps.refl _) (a := b11) (argsL := [(.long p1)]) (rest := [(.ref b11)]) (lenOf own_pd1 rfl) rfl (by show 2 * 0 + _ ≤ _; exact Nat.le_of_eq rfl) (hb hby own_d_jdk_35_method_24_code_36) (fun _ _ => ⟨rfl, e11, (by decide : 1 + 0 ≤ _), (by decide : 1 + 0 ≤ _)⟩)
    dsimp only [Pt.U, Pt.locs, Pt.cells, Pt.slots] at X17 l17 y17 z17 st17 hQ17
    subst l17 y17 z17
    obtain ⟨N17q, rfl, K17, q18, q19⟩ := hQ17
    have N20 := Fr.app N0 N17q
    refine own_tr st17 ?_
    have Zs21 : n0 ≤ T17.heap.size := Nat.le_trans Zs12 K17.1
    have Kp22 : Keep h0 T17.heap [] := Kp13.trans K17 (allS (Or.inr sz15) all0)
    show own_Go p e below s _ _ _ (T17.setTop (mkF m 39 #[.val (.long p1), .second, .val (.int (128 : Int32))] [(.ref b11)]))
    refine own_retA X17 hx hlk Bd.returns rfl (hb hby own_d_jdk_35_method_24_code_39) (by decide) (by decide) ?_
    skip
    exact ⟨b11, N20, rfl, Kp22, q18, q19⟩
  · refine own_st (fun _ k => XS.ifNo X0.here hx rfl (hb hby own_d_jdk_35_method_24_code_9) rfl (XT.ll_lt_f hc10) k) ?_
    show own_Go p e below s _ _ _ (s₁.setTop (mkF m 12 #[.val (.long p1), .second, .val (.int (128 : Int32))] []))
    refine own_st (fun _ k => XT.lloadN X0.here hx rfl (hb hby own_d_jdk_35_method_24_code_12) rfl k) ?_
    show own_Go p e below s _ _ _ (s₁.setTop (mkF m 13 #[.val (.long p1), .second, .val (.int (128 : Int32))] [(.long p1)]))
    refine own_st (fun _ k => X0.ldc2J hx hown (mvT hZ (hw _ (List.mem_of_getElem? (i := 43) rfl))) rfl (hb hby own_d_jdk_35_method_24_code_13) k) ?_
    show own_Go p e below s _ _ _ (s₁.setTop (mkF m 16 #[.val (.long p1), .second, .val (.int (128 : Int32))] [(.long (127 : Int64)), (.long p1)]))
    refine own_st (fun _ k => XT.lcmp X0.here hx rfl (hb hby own_d_jdk_35_method_24_code_16) rfl k) ?_
    show own_Go p e below s _ _ _ (s₁.setTop (mkF m 17 #[.val (.long p1), .second, .val (.int (128 : Int32))] [(.int (XT.cmpL p1 (127 : Int64)))]))
    by_cases hc23 : (127 : Int64) < p1
    · refine own_st (fun _ k => XS.ifYes X0.here hx rfl (pc0 := 17) (pc' := 31) rfl (hb hby own_d_jdk_35_method_24_code_17) rfl (XT.ll_gt_t hc23) (by decide) (by decide) k) ?_
      show own_Go p e below s _ _ _ (s₁.setTop (mkF m 31 #[.val (.long p1), .second, .val (.int (128 : Int32))] []))
      obtain ⟨T24, h24, X24, e24, E24, A24, D24, -, st24⟩ := newO X0 hx hZ hown (hw _ (List.mem_of_getElem? (i := 25) rfl)) (hw _ (List.mem_of_getElem? (i := 26) rfl)) (hw _ (List.mem_of_getElem? (i := 22) rfl)) e0 (g := (mkF m 31 #[.val (.long p1), .second, .val (.int (128 : Int32))] [])) rfl (hb hby own_d_jdk_35_method_24_code_31) (by decide) (by decide)
      obtain ⟨b24, g24⟩ : ∃ z, z = h0.size := ⟨_, rfl⟩
      rw [← g24] at A24 D24 st24
      refine own_st st24 ?_
      have Zs25 : n0 ≤ h24.size := Nat.le_trans Z0 E24.1
      have Kp26 : Keep h0 h24 [] := Kp0.ext E24
      have g27 : n0 ≤ b24 := Nat.le_trans Z0 (Nat.le_of_eq g24.symm)
      have sz28 : h0.size ≤ b24 := Nat.le_trans Kp0.1 (Nat.le_of_eq g24.symm)
      have F29 : Fld Z h24 b24 "java/lang/Long" "value" "J" (.long (0 : Int64)) := D24 (Or.inr (hw _ (List.mem_of_getElem? (i := 39) rfl))) (ty := .long) (by decide)
      show own_Go p e below s _ _ _ (T24.setTop (mkF m 34 #[.val (.long p1), .second, .val (.int (128 : Int32))] [(.ref b24)]))
      refine own_st (fun _ k => XS.dup X24.here hx rfl (hb hby own_d_jdk_35_method_24_code_34) rfl rfl k) ?_
      show own_Go p e below s _ _ _ (T24.setTop (mkF m 35 #[.val (.long p1), .second, .val (.int (128 : Int32))] [(.ref b24), (.ref b24)]))
      refine own_st (fun _ k => XT.lloadN X24.here hx rfl (hb hby own_d_jdk_35_method_24_code_35) rfl k) ?_
      show own_Go p e below s _ _ _ (T24.setTop (mkF m 36 #[.val (.long p1), .second, .val (.int (128 : Int32))] [(.long p1), (.ref b24), (.ref b24)]))
      obtain ⟨_, _, ⟨T30, L30, k30, n30⟩, -, X30, ⟨Lc30, hQ30, l30, y30, z30⟩, st30⟩ := X24.specialBack hx (y := (⟨"java/lang/Long", "<init>", "(J)V"⟩ : MethodName)) rfl hown (mvT hZ (hw _ (List.mem_of_getElem? (i := 27) rfl))) (mvT hZ (hw _ (List.mem_of_getElem? (i := 28) rfl))) (mvT hZ (hw _ (List.mem_of_getElem? (i := 30) rfl))) (by decide) (backOf (W := 1) (own_rm_boxinitJ l Z a0 hw [] b24 p1 h24 n0 Zs25 A24 F29 g27) hZ (hw _ (List.mem_of_getElem? (i := 30) rfl)) (hw _ (List.mem_of_getElem? (i := 22) rfl)) (by decide) (by decide)) (g := (mkF m 36 #[.val (.long p1), .second, .val (.int (128 : Int32))] [(.long p1), (.ref b24), (.ref b24)])) rfl (by rw [hml]; rfl) (Steps.refl _) (a := b24) (argsL := [(.long p1)]) (rest := [(.ref b24)]) (lenOf own_pd1 rfl) rfl (by show 2 * 0 + _ ≤ _; exact Nat.le_of_eq rfl) (hb hby own_d_jdk_35_method_24_code_36) (fun _ _ => ⟨rfl, e24, (by decide : 1 + 0 ≤ _), (by decide : 1 + 0 ≤ _)⟩)
      dsimp only [Pt.U, Pt.locs, Pt.cells, Pt.slots] at X30 l30 y30 z30 st30 hQ30
      subst l30 y30 z30
      obtain ⟨N30q, rfl, K30, q31, q32⟩ := hQ30
      have N33 := Fr.app N0 N30q
      refine own_tr st30 ?_
      have Zs34 : n0 ≤ T30.heap.size := Nat.le_trans Zs25 K30.1
      have Kp35 : Keep h0 T30.heap [] := Kp26.trans K30 (allS (Or.inr sz28) all0)
      show own_Go p e below s _ _ _ (T30.setTop (mkF m 39 #[.val (.long p1), .second, .val (.int (128 : Int32))] [(.ref b24)]))
      refine own_retA X30 hx hlk Bd.returns rfl (hb hby own_d_jdk_35_method_24_code_39) (by decide) (by decide) ?_
      skip
      exact ⟨b24, N33, rfl, Kp35, q31, q32⟩
    · refine own_st (fun _ k => XS.ifNo X0.here hx rfl (hb hby own_d_jdk_35_method_24_code_17) rfl (XT.ll_gt_f hc23) k) ?_
      show own_Go p e below s _ _ _ (s₁.setTop (mkF m 20 #[.val (.long p1), .second, .val (.int (128 : Int32))] []))
      have F36 : Sta Z h0 "java/lang/Long$LongCache" "cache" "[Ljava/lang/Long;" (.ref a_cacheJ) := S_cacheJ.ext O0.2
      obtain ⟨T37, X37, e37, st37⟩ := getS2 X0 hx hZ hown (host := "") (Or.inl (hw _ (List.mem_of_getElem? (i := 44) rfl))) Via.refl e0 F36 (g := (mkF m 20 #[.val (.long p1), .second, .val (.int (128 : Int32))] [])) rfl (hb hby own_d_jdk_35_method_24_code_20)
      refine own_st st37 ?_
      show own_Go p e below s _ _ _ (T37.setTop (mkF m 23 #[.val (.long p1), .second, .val (.int (128 : Int32))] [(.ref a_cacheJ)]))
      refine own_st (fun _ k => XT.lloadN X37.here hx rfl (hb hby own_d_jdk_35_method_24_code_23) rfl k) ?_
      show own_Go p e below s _ _ _ (T37.setTop (mkF m 24 #[.val (.long p1), .second, .val (.int (128 : Int32))] [(.long p1), (.ref a_cacheJ)]))
      refine own_st (fun _ k => XT.l2i X37.here hx rfl (hb hby own_d_jdk_35_method_24_code_24) rfl k) ?_
      show own_Go p e below s _ _ _ (T37.setTop (mkF m 25 #[.val (.long p1), .second, .val (.int (128 : Int32))] [(.int (p1.toInt32)), (.ref a_cacheJ)]))
      refine own_st (fun _ k => XT.sipushV X37.here hx rfl (128 : Int32) (hb hby own_d_jdk_35_method_24_code_25) (by decide) k) ?_
      show own_Go p e below s _ _ _ (T37.setTop (mkF m 28 #[.val (.long p1), .second, .val (.int (128 : Int32))] [(.int (128 : Int32)), (.int (p1.toInt32)), (.ref a_cacheJ)]))
      refine own_st (fun _ k => XS.iadd X37.here hx rfl (hb hby own_d_jdk_35_method_24_code_28) rfl k) ?_
      show own_Go p e below s _ _ _ (T37.setTop (mkF m 29 #[.val (.long p1), .second, .val (.int (128 : Int32))] [(.int ((p1.toInt32) + (128 : Int32))), (.ref a_cacheJ)]))
      obtain ⟨hin0, hlt0⟩ := LongBox.place_okL p1 hc10 hc23
      have hv0 := LongBox.place_valL p1 hc10 hc23
      obtain ⟨cl0, Ar0, Sz0, Hj0⟩ := BxJ
      obtain ⟨r0, hat0, Er0, Fr0⟩ := Hj0 _ hin0
      refine own_st (fun _ k => X37.aaload hx (j := ((p1.toInt32) + (128 : Int32))) (v := .ref r0) (by rw [e37]; exact (Ar0.ext O0.2).1) (State.isArrayOf_alike hZ.alike Ar0.2.1) rfl Ar0.2.2 (by rw [Sz0]; exact hin0) hat0 (g := (mkF m 29 #[.val (.long p1), .second, .val (.int (128 : Int32))] [(.int ((p1.toInt32) + (128 : Int32))), (.ref a_cacheJ)])) rfl rfl (hb hby own_d_jdk_35_method_24_code_29) _ k) ?_
      have hv1 : Fld Z Z.heap r0 "java/lang/Long" "value" "J" (.long p1) := by rw [own_bkJ p1 hc10 hc23] at Fr0; exact Fr0
      show own_Go p e below s _ _ _ (T37.setTop (mkF m 30 #[.val (.long p1), .second, .val (.int (128 : Int32))] [(.ref r0)]))
      have F38 : Exa Z h0 r0 "java/lang/Long" := Er0.ext O0.2
      have F39 : Fld Z h0 r0 "java/lang/Long" "value" "J" (.long p1) := hv1.ext O0.2
      refine own_retA X37 hx hlk Bd.returns rfl (hb hby own_d_jdk_35_method_24_code_30) (by decide) (by decide) ?_
      rw [e37]
      exact ⟨r0, N0, rfl, Kp0, F38, F39⟩
theorem own_d_prog_96_method_1_code_0 : decode prog_96_method_1_code 0 = .ok (.aload_n 0, 1) := by decide +kernel
theorem own_d_prog_96_method_1_code_1 : decode prog_96_method_1_code 1 = .ok (.invokespecial 1, 3) := by decide +kernel
theorem own_d_prog_96_method_1_code_4 : decode prog_96_method_1_code 4 = .ok (.aload_n 0, 1) := by decide +kernel
theorem own_d_prog_96_method_1_code_5 : decode prog_96_method_1_code 5 = .ok (.lload_n 1, 1) := by decide +kernel
theorem own_d_prog_96_method_1_code_6 : decode prog_96_method_1_code 6 = .ok (.putfield 7, 3) := by decide +kernel
theorem own_d_prog_96_method_1_code_9 : decode prog_96_method_1_code 9 = .ok (.aload_n 0, 1) := by decide +kernel
theorem own_d_prog_96_method_1_code_10 : decode prog_96_method_1_code 10 = .ok (.lload_n 3, 1) := by decide +kernel
theorem own_d_prog_96_method_1_code_11 : decode prog_96_method_1_code 11 = .ok (.putfield 13, 3) := by decide +kernel
theorem own_d_prog_96_method_1_code_14 : decode prog_96_method_1_code 14 = .ok (.return_, 1) := by decide +kernel
theorem own_pn3 : plainFor (⟨"com/example/epoch/epoch/protocol/record/AbortedTransaction", "<init>", "(JJ)V"⟩ : MethodName) = true := by decide +kernel
def own_rm_init_Q (Z : State) (r : Addr) (q1 : Int64) (q2 : Int64) (h0 : Heap) (n0 : Nat) (v : Option Value) (h : Heap) (L : List Loc) : Prop := Fr n0 L ∧ v = none ∧ Keep h0 h [r] ∧ Exa Z h r "com/example/epoch/epoch/protocol/record/AbortedTransaction" ∧ Fld Z h r "com/example/epoch/epoch/protocol/record/AbortedTransaction" "producerId" "J" (.long q1) ∧ Fld Z h r "com/example/epoch/epoch/protocol/record/AbortedTransaction" "firstOffset" "J" (.long q2)
theorem own_rm_init_ef (m : MethodId) (r : Addr) (q1 : Int64) (q2 : Int64) : entryFrame m #[(.ref r), (.long q1), (.long q2)] 5 = mkF m 0 #[.val (.ref r), .val (.long q1), .second, .val (.long q2), .second] [] := by first | (simp [entryFrame, mkF, argsToLocals, Value.category]; done) | rfl
set_option maxRecDepth 65536 in
set_option maxHeartbeats 40000000 in
theorem own_rm_init (l : Launch) (Z : State) (a0 : Array Value) (hw : ∀ d ∈ tables_1, d.before a0 Z = true) (ws : List Jvm.Cond) (r : Addr) (q1 : Int64) (q2 : Int64) (h0 : Heap) (n0 : Nat) (Z0 : n0 ≤ h0.size) (E1 : Exa Z h0 r "com/example/epoch/epoch/protocol/record/AbortedTransaction") (F1 : Fld Z h0 r "com/example/epoch/epoch/protocol/record/AbortedTransaction" "producerId" "J" (.long (0 : Int64))) (F2 : Fld Z h0 r "com/example/epoch/epoch/protocol/record/AbortedTransaction" "firstOffset" "J" (.long (0 : Int64))) (g1 : n0 ≤ r) :
    MetFree l (⟨"com/example/epoch/epoch/protocol/record/AbortedTransaction", "<init>", "(JJ)V"⟩ : MethodName) (head1 (Jvm.Cond.code (⟨"com/example/epoch/epoch/protocol/record/AbortedTransaction", "<init>", "(JJ)V"⟩ : MethodName) prog_96_method_1_code 5 none :: ws) ({ frames := 1, cells := 0, slots := 0, locals := 12 } : Room)) (fun a U => a = #[(.ref r), (.long q1), (.long q2)] ∧ Z.Warmed39 U.vm ∧ U.heap = h0) (fun _ _ _ _ _ => True) (fun _ U o U' => ∃ v L, o = .returned v ∧ own_rm_init_Q Z r q1 q2 h0 n0 v U'.heap L ∧ FrameEnd U o U' L ({ frames := 1, cells := 0, slots := 0, locals := 12 } : Room).cells ({ frames := 1, cells := 0, slots := 0, locals := 12 } : Room).slots) := by
  refine MetFree.of_bodySF own_pn3 hisR ?_
  intro p e s m args below meth c s₁ Bd hml0 hP hK
  obtain ⟨rfl, hZ, hh⟩ := hP
  have hx := Bd.exec
  have hby := Bd.bytes
  have hml : c.maxLocals = 5 := hml0
  have hlk := BodyLoose.notSynchronized Bd
  have hown : s.vm.findClass "com/example/epoch/epoch/protocol/record/AbortedTransaction" = some m.cls := findClass_of_methodNamed Bd.named
  have hnm := (name_of_methodNamed Bd.named Bd.method).1
  have X0 : Stand p l e ({ frames := 1, cells := 0, slots := 0, locals := 12 } : Room) s m #[(.ref r), (.long q1), (.long q2)] below meth c s₁ [] 0 0 := Stand.of_body Bd
  have e0 : s₁.heap = h0 := by rw [← hh, Bd.state]; rfl
  have N0 := Fr.nil n0
  have Kp0 : Keep h0 h0 [r] := Keep.refl _ _
  show own_Go p e below s (own_rm_init_Q Z r q1 q2 h0 n0) ({ frames := 1, cells := 0, slots := 0, locals := 12 } : Room).cells ({ frames := 1, cells := 0, slots := 0, locals := 12 } : Room).slots (s₁.setTop (entryFrame m #[(.ref r), (.long q1), (.long q2)] 5))
  rw [own_rm_init_ef]
  show own_Go p e below s _ _ _ (s₁.setTop (mkF m 0 #[.val (.ref r), .val (.long q1), .second, .val (.long q2), .second] []))
  refine own_st (fun _ k => XS.aloadN X0.here hx rfl (hb hby own_d_prog_96_method_1_code_0) rfl rfl k) ?_
  show own_Go p e below s _ _ _ (s₁.setTop (mkF m 1 #[.val (.ref r), .val (.long q1), .second, .val (.long q2), .second] [(.ref r)]))
  obtain ⟨T40, X40, e40, st40⟩ := initO X0 hx hZ hown (hw _ (List.mem_of_getElem? (i := 6) rfl)) (hw _ (List.mem_of_getElem? (i := 7) rfl)) (hw _ (List.mem_of_getElem? (i := 8) rfl)) e0 (g := (mkF m 1 #[.val (.ref r), .val (.long q1), .second, .val (.long q2), .second] [(.ref r)])) rfl (by rw [hml]; rfl) rfl (hb hby own_d_prog_96_method_1_code_1) (by decide) (W := 0) (by show 2 * 0 + _ ≤ _; exact Nat.le_of_eq rfl) (by decide)
  refine own_st st40 ?_
  show own_Go p e below s _ _ _ (T40.setTop (mkF m 4 #[.val (.ref r), .val (.long q1), .second, .val (.long q2), .second] []))
  refine own_st (fun _ k => XS.aloadN X40.here hx rfl (hb hby own_d_prog_96_method_1_code_4) rfl rfl k) ?_
  show own_Go p e below s _ _ _ (T40.setTop (mkF m 5 #[.val (.ref r), .val (.long q1), .second, .val (.long q2), .second] [(.ref r)]))
  refine own_st (fun _ k => XT.lloadN X40.here hx rfl (hb hby own_d_prog_96_method_1_code_5) rfl k) ?_
  show own_Go p e below s _ _ _ (T40.setTop (mkF m 6 #[.val (.ref r), .val (.long q1), .second, .val (.long q2), .second] [(.long q1), (.ref r)]))
  obtain ⟨T41, h41, X41, e41, W41, st41⟩ := putF X40 hx hZ hown (host := "") (Or.inl (hw _ (List.mem_of_getElem? (i := 9) rfl))) Via.refl e40 F1 E1 (Or.inr ⟨(hw _ (List.mem_of_getElem? (i := 10) rfl)), rfl, hnm⟩) (hw _ (List.mem_of_getElem? (i := 1) rfl)) (ty := .long) (by decide) rfl rfl (g := (mkF m 6 #[.val (.ref r), .val (.long q1), .second, .val (.long q2), .second] [(.long q1), (.ref r)])) rfl rfl (hb hby own_d_prog_96_method_1_code_6)
  refine own_st st41 ?_
  have N42 := Fr.snoc X41 N0 g1
  have F43 : Fld Z h41 r "com/example/epoch/epoch/protocol/record/AbortedTransaction" "producerId" "J" (.long q1) := F1.same W41
  have Zs44 : n0 ≤ h41.size := Nat.le_trans Z0 (Nat.le_of_eq W41.size.symm)
  have Kp45 : Keep h0 h41 [r] := Kp0.wr W41 (Or.inl (List.mem_of_getElem? (i := 0) rfl))
  show own_Go p e below s _ _ _ (T41.setTop (mkF m 9 #[.val (.ref r), .val (.long q1), .second, .val (.long q2), .second] []))
  refine own_st (fun _ k => XS.aloadN X41.here hx rfl (hb hby own_d_prog_96_method_1_code_9) rfl rfl k) ?_
  show own_Go p e below s _ _ _ (T41.setTop (mkF m 10 #[.val (.ref r), .val (.long q1), .second, .val (.long q2), .second] [(.ref r)]))
  refine own_st (fun _ k => XT.lloadN X41.here hx rfl (hb hby own_d_prog_96_method_1_code_10) rfl k) ?_
  show own_Go p e below s _ _ _ (T41.setTop (mkF m 11 #[.val (.ref r), .val (.long q1), .second, .val (.long q2), .second] [(.long q2), (.ref r)]))
  have F46 : Fld Z h41 r "com/example/epoch/epoch/protocol/record/AbortedTransaction" "firstOffset" "J" (.long (0 : Int64)) := (F2.other W41 (Or.inr (slot_ne (Or.inr (hw _ (List.mem_of_getElem? (i := 12) rfl))) (Or.inr (hw _ (List.mem_of_getElem? (i := 10) rfl))) (by decide) (t := .long) (t' := .long) (by decide) (by decide))))
  have F47 : Exa Z h41 r "com/example/epoch/epoch/protocol/record/AbortedTransaction" := (E1.wr W41)
  obtain ⟨T48, h48, X48, e48, W48, st48⟩ := putF X41 hx hZ hown (host := "") (Or.inl (hw _ (List.mem_of_getElem? (i := 11) rfl))) Via.refl e41 F46 F47 (Or.inr ⟨(hw _ (List.mem_of_getElem? (i := 12) rfl)), rfl, hnm⟩) (hw _ (List.mem_of_getElem? (i := 1) rfl)) (ty := .long) (by decide) rfl rfl (g := (mkF m 11 #[.val (.ref r), .val (.long q1), .second, .val (.long q2), .second] [(.long q2), (.ref r)])) rfl rfl (hb hby own_d_prog_96_method_1_code_11)
  refine own_st st48 ?_
  have N49 := Fr.snoc X48 N42 g1
  have F50 : Fld Z h48 r "com/example/epoch/epoch/protocol/record/AbortedTransaction" "firstOffset" "J" (.long q2) := F46.same W48
  have Zs51 : n0 ≤ h48.size := Nat.le_trans Zs44 (Nat.le_of_eq W48.size.symm)
  have Kp52 : Keep h0 h48 [r] := Kp45.wr W48 (Or.inl (List.mem_of_getElem? (i := 0) rfl))
  show own_Go p e below s _ _ _ (T48.setTop (mkF m 14 #[.val (.ref r), .val (.long q1), .second, .val (.long q2), .second] []))
  have F53 : Exa Z h48 r "com/example/epoch/epoch/protocol/record/AbortedTransaction" := (F47.wr W48)
  have F54 : Fld Z h48 r "com/example/epoch/epoch/protocol/record/AbortedTransaction" "producerId" "J" (.long q1) := (F43.other W48 (Or.inr (slot_ne (Or.inr (hw _ (List.mem_of_getElem? (i := 10) rfl))) (Or.inr (hw _ (List.mem_of_getElem? (i := 12) rfl))) (by decide) (t := .long) (t' := .long) (by decide) (by decide))))
  refine own_ret0 X48 hx hlk Bd.returns (hb hby own_d_prog_96_method_1_code_14) (by decide) (by decide) ?_
  rw [e48]
  exact ⟨N49, rfl, Kp52, F53, F54, F50⟩
theorem own_d_prog_96_method_4_code_0 : decode prog_96_method_4_code 0 = .ok (.aload_n 1, 1) := by decide +kernel
theorem own_d_prog_96_method_4_code_1 : decode prog_96_method_4_code 1 = .ok (.instanceof 8, 3) := by decide +kernel
theorem own_d_prog_96_method_4_code_4 : decode prog_96_method_4_code 4 = .ok (.ifCond .ne 5, 3) := by decide +kernel
theorem own_d_prog_96_method_4_code_7 : decode prog_96_method_4_code 7 = .ok (.iconst 0, 1) := by decide +kernel
theorem own_d_prog_96_method_4_code_8 : decode prog_96_method_4_code 8 = .ok (.ireturn, 1) := by decide +kernel
theorem own_d_prog_96_method_4_code_9 : decode prog_96_method_4_code 9 = .ok (.aload_n 1, 1) := by decide +kernel
theorem own_d_prog_96_method_4_code_10 : decode prog_96_method_4_code 10 = .ok (.checkcast 8, 3) := by decide +kernel
theorem own_d_prog_96_method_4_code_13 : decode prog_96_method_4_code 13 = .ok (.astore_n 2, 1) := by decide +kernel
theorem own_d_prog_96_method_4_code_14 : decode prog_96_method_4_code 14 = .ok (.aload_n 0, 1) := by decide +kernel
theorem own_d_prog_96_method_4_code_15 : decode prog_96_method_4_code 15 = .ok (.getfield 7, 3) := by decide +kernel
theorem own_d_prog_96_method_4_code_18 : decode prog_96_method_4_code 18 = .ok (.aload_n 2, 1) := by decide +kernel
theorem own_d_prog_96_method_4_code_19 : decode prog_96_method_4_code 19 = .ok (.getfield 7, 3) := by decide +kernel
theorem own_d_prog_96_method_4_code_22 : decode prog_96_method_4_code 22 = .ok (.lcmp, 1) := by decide +kernel
theorem own_d_prog_96_method_4_code_23 : decode prog_96_method_4_code 23 = .ok (.ifCond .ne 19, 3) := by decide +kernel
theorem own_d_prog_96_method_4_code_26 : decode prog_96_method_4_code 26 = .ok (.aload_n 0, 1) := by decide +kernel
theorem own_d_prog_96_method_4_code_27 : decode prog_96_method_4_code 27 = .ok (.getfield 13, 3) := by decide +kernel
theorem own_d_prog_96_method_4_code_30 : decode prog_96_method_4_code 30 = .ok (.aload_n 2, 1) := by decide +kernel
theorem own_d_prog_96_method_4_code_31 : decode prog_96_method_4_code 31 = .ok (.getfield 13, 3) := by decide +kernel
theorem own_d_prog_96_method_4_code_34 : decode prog_96_method_4_code 34 = .ok (.lcmp, 1) := by decide +kernel
theorem own_d_prog_96_method_4_code_35 : decode prog_96_method_4_code 35 = .ok (.ifCond .ne 7, 3) := by decide +kernel
theorem own_d_prog_96_method_4_code_38 : decode prog_96_method_4_code 38 = .ok (.iconst 1, 1) := by decide +kernel
theorem own_d_prog_96_method_4_code_39 : decode prog_96_method_4_code 39 = .ok (.goto 4, 3) := by decide +kernel
theorem own_d_prog_96_method_4_code_42 : decode prog_96_method_4_code 42 = .ok (.iconst 0, 1) := by decide +kernel
theorem own_d_prog_96_method_4_code_43 : decode prog_96_method_4_code 43 = .ok (.ireturn, 1) := by decide +kernel
theorem own_pn4 : plainFor (⟨"com/example/epoch/epoch/protocol/record/AbortedTransaction", "equals", "(Ljava/lang/Object;)Z"⟩ : MethodName) = true := by decide +kernel
def own_rm_eqN_Q (Z : State) (r : Addr) (h0 : Heap) (n0 : Nat) (v : Option Value) (h : Heap) (L : List Loc) : Prop := Fr n0 L ∧ v = some (.int (0 : Int32)) ∧ h = h0
theorem own_rm_eqN_ef (m : MethodId) (r : Addr) : entryFrame m #[(.ref r), .null] 3 = mkF m 0 #[.val (.ref r), .val .null, .unset] [] := by first | (simp [entryFrame, mkF, argsToLocals, Value.category]; done) | rfl
set_option maxRecDepth 65536 in
set_option maxHeartbeats 40000000 in
theorem own_rm_eqN (l : Launch) (Z : State) (a0 : Array Value) (hw : ∀ d ∈ tables_1, d.before a0 Z = true) (ws : List Jvm.Cond) (r : Addr) (h0 : Heap) (n0 : Nat) (Z0 : n0 ≤ h0.size)  :
    MetFree l (⟨"com/example/epoch/epoch/protocol/record/AbortedTransaction", "equals", "(Ljava/lang/Object;)Z"⟩ : MethodName) (head1 (Jvm.Cond.code (⟨"com/example/epoch/epoch/protocol/record/AbortedTransaction", "equals", "(Ljava/lang/Object;)Z"⟩ : MethodName) prog_96_method_4_code 3 (some .boolean) :: ws) ({ frames := 0, cells := 0, slots := 0, locals := 0 } : Room)) (fun a U => a = #[(.ref r), .null] ∧ Z.Warmed39 U.vm ∧ U.heap = h0) (fun _ _ _ _ _ => True) (fun _ U o U' => ∃ v L, o = .returned v ∧ own_rm_eqN_Q Z r h0 n0 v U'.heap L ∧ FrameEnd U o U' L ({ frames := 0, cells := 0, slots := 0, locals := 0 } : Room).cells ({ frames := 0, cells := 0, slots := 0, locals := 0 } : Room).slots) := by
  refine MetFree.of_bodySF own_pn4 hisR ?_
  intro p e s m args below meth c s₁ Bd hml0 hP hK
  obtain ⟨rfl, hZ, hh⟩ := hP
  have hx := Bd.exec
  have hby := Bd.bytes
  have hml : c.maxLocals = 3 := hml0
  have hlk := BodyLoose.notSynchronized Bd
  have hown : s.vm.findClass "com/example/epoch/epoch/protocol/record/AbortedTransaction" = some m.cls := findClass_of_methodNamed Bd.named
  have hnm := (name_of_methodNamed Bd.named Bd.method).1
  have X0 : Stand p l e ({ frames := 0, cells := 0, slots := 0, locals := 0 } : Room) s m #[(.ref r), .null] below meth c s₁ [] 0 0 := Stand.of_body Bd
  have e0 : s₁.heap = h0 := by rw [← hh, Bd.state]; rfl
  have N0 := Fr.nil n0
  show own_Go p e below s (own_rm_eqN_Q Z r h0 n0) ({ frames := 0, cells := 0, slots := 0, locals := 0 } : Room).cells ({ frames := 0, cells := 0, slots := 0, locals := 0 } : Room).slots (s₁.setTop (entryFrame m #[(.ref r), .null] 3))
  rw [own_rm_eqN_ef]
  show own_Go p e below s _ _ _ (s₁.setTop (mkF m 0 #[.val (.ref r), .val .null, .unset] []))
  refine own_st (fun _ k => XS.aloadN X0.here hx rfl (hb hby own_d_prog_96_method_4_code_0) rfl rfl k) ?_
  show own_Go p e below s _ _ _ (s₁.setTop (mkF m 1 #[.val (.ref r), .val .null, .unset] [.null]))
  refine own_st (Jvm.Stand.instanceofNull X0 hx (g := (mkF m 1 #[.val (.ref r), .val .null, .unset] [.null])) rfl rfl (hb hby own_d_prog_96_method_4_code_1)) ?_
  show own_Go p e below s _ _ _ (s₁.setTop (mkF m 4 #[.val (.ref r), .val .null, .unset] [(.int (0 : Int32))]))
  refine own_st (fun _ k => XS.ifNo X0.here hx rfl (hb hby own_d_prog_96_method_4_code_4) rfl (XT.i0_ne_f (by decide)) k) ?_
  show own_Go p e below s _ _ _ (s₁.setTop (mkF m 7 #[.val (.ref r), .val .null, .unset] []))
  refine own_st (fun _ k => XT.iconstV X0.here hx rfl (0 : Int32) (hb hby own_d_prog_96_method_4_code_7) (by decide) k) ?_
  show own_Go p e below s _ _ _ (s₁.setTop (mkF m 8 #[.val (.ref r), .val .null, .unset] [(.int (0 : Int32))]))
  refine own_retN X0 hx hlk Bd.returns (t := .boolean) (z' := (0 : Int32)) (by simp) (by decide) (hb hby own_d_prog_96_method_4_code_8) (by decide) (by decide) ?_
  rw [e0]
  exact ⟨N0, rfl, rfl⟩
def own_rm_eqL_Q (Z : State) (r : Addr) (oo : Addr) (h0 : Heap) (n0 : Nat) (v : Option Value) (h : Heap) (L : List Loc) : Prop := Fr n0 L ∧ v = some (.int (0 : Int32)) ∧ h = h0
theorem own_rm_eqL_ef (m : MethodId) (r : Addr) (oo : Addr) : entryFrame m #[(.ref r), (.ref oo)] 3 = mkF m 0 #[.val (.ref r), .val (.ref oo), .unset] [] := by first | (simp [entryFrame, mkF, argsToLocals, Value.category]; done) | rfl
set_option maxRecDepth 65536 in
set_option maxHeartbeats 40000000 in
theorem own_rm_eqL (l : Launch) (Z : State) (a0 : Array Value) (hw : ∀ d ∈ tables_1, d.before a0 Z = true) (ws : List Jvm.Cond) (r : Addr) (oo : Addr) (h0 : Heap) (n0 : Nat) (Z0 : n0 ≤ h0.size) (E1 : Exa Z h0 oo "java/lang/Long") :
    MetFree l (⟨"com/example/epoch/epoch/protocol/record/AbortedTransaction", "equals", "(Ljava/lang/Object;)Z"⟩ : MethodName) (head1 (Jvm.Cond.code (⟨"com/example/epoch/epoch/protocol/record/AbortedTransaction", "equals", "(Ljava/lang/Object;)Z"⟩ : MethodName) prog_96_method_4_code 3 (some .boolean) :: ws) ({ frames := 0, cells := 0, slots := 0, locals := 0 } : Room)) (fun a U => a = #[(.ref r), (.ref oo)] ∧ Z.Warmed39 U.vm ∧ U.heap = h0) (fun _ _ _ _ _ => True) (fun _ U o U' => ∃ v L, o = .returned v ∧ own_rm_eqL_Q Z r oo h0 n0 v U'.heap L ∧ FrameEnd U o U' L ({ frames := 0, cells := 0, slots := 0, locals := 0 } : Room).cells ({ frames := 0, cells := 0, slots := 0, locals := 0 } : Room).slots) := by
  refine MetFree.of_bodySF own_pn4 hisR ?_
  intro p e s m args below meth c s₁ Bd hml0 hP hK
  obtain ⟨rfl, hZ, hh⟩ := hP
  have hx := Bd.exec
  have hby := Bd.bytes
  have hml : c.maxLocals = 3 := hml0
  have hlk := BodyLoose.notSynchronized Bd
  have hown : s.vm.findClass "com/example/epoch/epoch/protocol/record/AbortedTransaction" = some m.cls := findClass_of_methodNamed Bd.named
  have hnm := (name_of_methodNamed Bd.named Bd.method).1
  have X0 : Stand p l e ({ frames := 0, cells := 0, slots := 0, locals := 0 } : Room) s m #[(.ref r), (.ref oo)] below meth c s₁ [] 0 0 := Stand.of_body Bd
  have e0 : s₁.heap = h0 := by rw [← hh, Bd.state]; rfl
  have N0 := Fr.nil n0
  show own_Go p e below s (own_rm_eqL_Q Z r oo h0 n0) ({ frames := 0, cells := 0, slots := 0, locals := 0 } : Room).cells ({ frames := 0, cells := 0, slots := 0, locals := 0 } : Room).slots (s₁.setTop (entryFrame m #[(.ref r), (.ref oo)] 3))
  rw [own_rm_eqL_ef]
  show own_Go p e below s _ _ _ (s₁.setTop (mkF m 0 #[.val (.ref r), .val (.ref oo), .unset] []))
  refine own_st (fun _ k => XS.aloadN X0.here hx rfl (hb hby own_d_prog_96_method_4_code_0) rfl rfl k) ?_
  show own_Go p e below s _ _ _ (s₁.setTop (mkF m 1 #[.val (.ref r), .val (.ref oo), .unset] [(.ref oo)]))
  obtain ⟨T56, X56, e56, st56⟩ := instNo X0 hx hZ hown (hw _ (List.mem_of_getElem? (i := 18) rfl)) e0 E1 (own_no (hw _ (List.mem_of_getElem? (i := 40) rfl)) (hw _ (List.mem_of_getElem? (i := 1) rfl)) (NS.step (hw _ (List.mem_of_getElem? (i := 40) rfl)) (NS.step (hw _ (List.mem_of_getElem? (i := 41) rfl)) (own_NSroot (hw _ (List.mem_of_getElem? (i := 42) rfl)) (hw _ (List.mem_of_getElem? (i := 1) rfl)) (by decide)) (by decide)) (by decide)) (by decide)) (g := (mkF m 1 #[.val (.ref r), .val (.ref oo), .unset] [(.ref oo)])) rfl rfl (hb hby own_d_prog_96_method_4_code_1)
  refine own_st st56 ?_
  show own_Go p e below s _ _ _ (T56.setTop (mkF m 4 #[.val (.ref r), .val (.ref oo), .unset] [(.int (0 : Int32))]))
  refine own_st (fun _ k => XS.ifNo X56.here hx rfl (hb hby own_d_prog_96_method_4_code_4) rfl (XT.i0_ne_f (by decide)) k) ?_
  show own_Go p e below s _ _ _ (T56.setTop (mkF m 7 #[.val (.ref r), .val (.ref oo), .unset] []))
  refine own_st (fun _ k => XT.iconstV X56.here hx rfl (0 : Int32) (hb hby own_d_prog_96_method_4_code_7) (by decide) k) ?_
  show own_Go p e below s _ _ _ (T56.setTop (mkF m 8 #[.val (.ref r), .val (.ref oo), .unset] [(.int (0 : Int32))]))
  refine own_retN X56 hx hlk Bd.returns (t := .boolean) (z' := (0 : Int32)) (by simp) (by decide) (hb hby own_d_prog_96_method_4_code_8) (by decide) (by decide) ?_
  rw [e56]
  exact ⟨N0, rfl, rfl⟩
def own_rm_eqA_Q (Z : State) (r : Addr) (oo : Addr) (q1 : Int64) (q2 : Int64) (q3 : Int64) (q4 : Int64) (h0 : Heap) (n0 : Nat) (v : Option Value) (h : Heap) (L : List Loc) : Prop := Fr n0 L ∧ v = some (.int (if q1 = q3 then (if q2 = q4 then (1 : Int32) else 0) else 0)) ∧ h = h0
theorem own_rm_eqA_ef (m : MethodId) (r : Addr) (oo : Addr) : entryFrame m #[(.ref r), (.ref oo)] 3 = mkF m 0 #[.val (.ref r), .val (.ref oo), .unset] [] := by first | (simp [entryFrame, mkF, argsToLocals, Value.category]; done) | rfl
set_option maxRecDepth 65536 in
set_option maxHeartbeats 40000000 in
theorem own_rm_eqA (l : Launch) (Z : State) (a0 : Array Value) (hw : ∀ d ∈ tables_1, d.before a0 Z = true) (ws : List Jvm.Cond) (r : Addr) (oo : Addr) (q1 : Int64) (q2 : Int64) (q3 : Int64) (q4 : Int64) (h0 : Heap) (n0 : Nat) (Z0 : n0 ≤ h0.size) (E1 : Exa Z h0 oo "com/example/epoch/epoch/protocol/record/AbortedTransaction") (F1 : Fld Z h0 r "com/example/epoch/epoch/protocol/record/AbortedTransaction" "producerId" "J" (.long q1)) (F2 : Fld Z h0 r "com/example/epoch/epoch/protocol/record/AbortedTransaction" "firstOffset" "J" (.long q2)) (F3 : Fld Z h0 oo "com/example/epoch/epoch/protocol/record/AbortedTransaction" "producerId" "J" (.long q3)) (F4 : Fld Z h0 oo "com/example/epoch/epoch/protocol/record/AbortedTransaction" "firstOffset" "J" (.long q4)) :
    MetFree l (⟨"com/example/epoch/epoch/protocol/record/AbortedTransaction", "equals", "(Ljava/lang/Object;)Z"⟩ : MethodName) (head1 (Jvm.Cond.code (⟨"com/example/epoch/epoch/protocol/record/AbortedTransaction", "equals", "(Ljava/lang/Object;)Z"⟩ : MethodName) prog_96_method_4_code 3 (some .boolean) :: ws) ({ frames := 0, cells := 0, slots := 0, locals := 0 } : Room)) (fun a U => a = #[(.ref r), (.ref oo)] ∧ Z.Warmed39 U.vm ∧ U.heap = h0) (fun _ _ _ _ _ => True) (fun _ U o U' => ∃ v L, o = .returned v ∧ own_rm_eqA_Q Z r oo q1 q2 q3 q4 h0 n0 v U'.heap L ∧ FrameEnd U o U' L ({ frames := 0, cells := 0, slots := 0, locals := 0 } : Room).cells ({ frames := 0, cells := 0, slots := 0, locals := 0 } : Room).slots) := by
  refine MetFree.of_bodySF own_pn4 hisR ?_
  intro p e s m args below meth c s₁ Bd hml0 hP hK
  obtain ⟨rfl, hZ, hh⟩ := hP
  have hx := Bd.exec
  have hby := Bd.bytes
  have hml : c.maxLocals = 3 := hml0
  have hlk := BodyLoose.notSynchronized Bd
  have hown : s.vm.findClass "com/example/epoch/epoch/protocol/record/AbortedTransaction" = some m.cls := findClass_of_methodNamed Bd.named
  have hnm := (name_of_methodNamed Bd.named Bd.method).1
  have X0 : Stand p l e ({ frames := 0, cells := 0, slots := 0, locals := 0 } : Room) s m #[(.ref r), (.ref oo)] below meth c s₁ [] 0 0 := Stand.of_body Bd
  have e0 : s₁.heap = h0 := by rw [← hh, Bd.state]; rfl
  have N0 := Fr.nil n0
  show own_Go p e below s (own_rm_eqA_Q Z r oo q1 q2 q3 q4 h0 n0) ({ frames := 0, cells := 0, slots := 0, locals := 0 } : Room).cells ({ frames := 0, cells := 0, slots := 0, locals := 0 } : Room).slots (s₁.setTop (entryFrame m #[(.ref r), (.ref oo)] 3))
  rw [own_rm_eqA_ef]
  show own_Go p e below s _ _ _ (s₁.setTop (mkF m 0 #[.val (.ref r), .val (.ref oo), .unset] []))
  refine own_st (fun _ k => XS.aloadN X0.here hx rfl (hb hby own_d_prog_96_method_4_code_0) rfl rfl k) ?_
  show own_Go p e below s _ _ _ (s₁.setTop (mkF m 1 #[.val (.ref r), .val (.ref oo), .unset] [(.ref oo)]))
  obtain ⟨T57, X57, e57, st57⟩ := instY X0 hx hZ hown (hw _ (List.mem_of_getElem? (i := 18) rfl)) e0 (Ins.self E1) (g := (mkF m 1 #[.val (.ref r), .val (.ref oo), .unset] [(.ref oo)])) rfl rfl (hb hby own_d_prog_96_method_4_code_1)
  refine own_st st57 ?_
  show own_Go p e below s _ _ _ (T57.setTop (mkF m 4 #[.val (.ref r), .val (.ref oo), .unset] [(.int (1 : Int32))]))
  refine own_st (fun _ k => XS.ifYes X57.here hx rfl (pc0 := 4) (pc' := 9) rfl (hb hby own_d_prog_96_method_4_code_4) rfl (XT.i0_ne_t (by decide)) (by decide) (by decide) k) ?_
  show own_Go p e below s _ _ _ (T57.setTop (mkF m 9 #[.val (.ref r), .val (.ref oo), .unset] []))
  refine own_st (fun _ k => XS.aloadN X57.here hx rfl (hb hby own_d_prog_96_method_4_code_9) rfl rfl k) ?_
  show own_Go p e below s _ _ _ (T57.setTop (mkF m 10 #[.val (.ref r), .val (.ref oo), .unset] [(.ref oo)]))
  obtain ⟨T58, X58, e58, st58⟩ := castY X57 hx hZ hown (hw _ (List.mem_of_getElem? (i := 18) rfl)) e57 (Ins.self E1) (g := (mkF m 10 #[.val (.ref r), .val (.ref oo), .unset] [(.ref oo)])) rfl rfl (hb hby own_d_prog_96_method_4_code_10)
  refine own_st st58 ?_
  show own_Go p e below s _ _ _ (T58.setTop (mkF m 13 #[.val (.ref r), .val (.ref oo), .unset] [(.ref oo)]))
  refine own_st (fun _ k => XS.astoreN X58.here hx rfl (hb hby own_d_prog_96_method_4_code_13) rfl rfl (l' := #[.val (.ref r), .val (.ref oo), .val (.ref oo)]) rfl k) ?_
  show own_Go p e below s _ _ _ (T58.setTop (mkF m 14 #[.val (.ref r), .val (.ref oo), .val (.ref oo)] []))
  refine own_st (fun _ k => XS.aloadN X58.here hx rfl (hb hby own_d_prog_96_method_4_code_14) rfl rfl k) ?_
  show own_Go p e below s _ _ _ (T58.setTop (mkF m 15 #[.val (.ref r), .val (.ref oo), .val (.ref oo)] [(.ref r)]))
  obtain ⟨T59, X59, e59, st59⟩ := getF X58 hx hZ hown (host := "") (Or.inl (hw _ (List.mem_of_getElem? (i := 9) rfl))) Via.refl e58 F1 (g := (mkF m 15 #[.val (.ref r), .val (.ref oo), .val (.ref oo)] [(.ref r)])) rfl rfl (hb hby own_d_prog_96_method_4_code_15)
  refine own_st st59 ?_
  show own_Go p e below s _ _ _ (T59.setTop (mkF m 18 #[.val (.ref r), .val (.ref oo), .val (.ref oo)] [(.long q1)]))
  refine own_st (fun _ k => XS.aloadN X59.here hx rfl (hb hby own_d_prog_96_method_4_code_18) rfl rfl k) ?_
  show own_Go p e below s _ _ _ (T59.setTop (mkF m 19 #[.val (.ref r), .val (.ref oo), .val (.ref oo)] [(.ref oo), (.long q1)]))
  obtain ⟨T60, X60, e60, st60⟩ := getF X59 hx hZ hown (host := "") (Or.inl (hw _ (List.mem_of_getElem? (i := 9) rfl))) Via.refl e59 F3 (g := (mkF m 19 #[.val (.ref r), .val (.ref oo), .val (.ref oo)] [(.ref oo), (.long q1)])) rfl rfl (hb hby own_d_prog_96_method_4_code_19)
  refine own_st st60 ?_
  show own_Go p e below s _ _ _ (T60.setTop (mkF m 22 #[.val (.ref r), .val (.ref oo), .val (.ref oo)] [(.long q3), (.long q1)]))
  refine own_st (fun _ k => XT.lcmp X60.here hx rfl (hb hby own_d_prog_96_method_4_code_22) rfl k) ?_
  show own_Go p e below s _ _ _ (T60.setTop (mkF m 23 #[.val (.ref r), .val (.ref oo), .val (.ref oo)] [(.int (XT.cmpL q1 q3))]))
  by_cases hc61 : q1 = q3
  · refine own_st (fun _ k => XS.ifNo X60.here hx rfl (hb hby own_d_prog_96_method_4_code_23) rfl (XT.ll_ne_f hc61) k) ?_
    show own_Go p e below s _ _ _ (T60.setTop (mkF m 26 #[.val (.ref r), .val (.ref oo), .val (.ref oo)] []))
    refine own_st (fun _ k => XS.aloadN X60.here hx rfl (hb hby own_d_prog_96_method_4_code_26) rfl rfl k) ?_
    show own_Go p e below s _ _ _ (T60.setTop (mkF m 27 #[.val (.ref r), .val (.ref oo), .val (.ref oo)] [(.ref r)]))
    obtain ⟨T62, X62, e62, st62⟩ := getF X60 hx hZ hown (host := "") (Or.inl (hw _ (List.mem_of_getElem? (i := 11) rfl))) Via.refl e60 F2 (g := (mkF m 27 #[.val (.ref r), .val (.ref oo), .val (.ref oo)] [(.ref r)])) rfl rfl (hb hby own_d_prog_96_method_4_code_27)
    refine own_st st62 ?_
    show own_Go p e below s _ _ _ (T62.setTop (mkF m 30 #[.val (.ref r), .val (.ref oo), .val (.ref oo)] [(.long q2)]))
    refine own_st (fun _ k => XS.aloadN X62.here hx rfl (hb hby own_d_prog_96_method_4_code_30) rfl rfl k) ?_
    show own_Go p e below s _ _ _ (T62.setTop (mkF m 31 #[.val (.ref r), .val (.ref oo), .val (.ref oo)] [(.ref oo), (.long q2)]))
    obtain ⟨T63, X63, e63, st63⟩ := getF X62 hx hZ hown (host := "") (Or.inl (hw _ (List.mem_of_getElem? (i := 11) rfl))) Via.refl e62 F4 (g := (mkF m 31 #[.val (.ref r), .val (.ref oo), .val (.ref oo)] [(.ref oo), (.long q2)])) rfl rfl (hb hby own_d_prog_96_method_4_code_31)
    refine own_st st63 ?_
    show own_Go p e below s _ _ _ (T63.setTop (mkF m 34 #[.val (.ref r), .val (.ref oo), .val (.ref oo)] [(.long q4), (.long q2)]))
    refine own_st (fun _ k => XT.lcmp X63.here hx rfl (hb hby own_d_prog_96_method_4_code_34) rfl k) ?_
    show own_Go p e below s _ _ _ (T63.setTop (mkF m 35 #[.val (.ref r), .val (.ref oo), .val (.ref oo)] [(.int (XT.cmpL q2 q4))]))
    by_cases hc64 : q2 = q4
    · refine own_st (fun _ k => XS.ifNo X63.here hx rfl (hb hby own_d_prog_96_method_4_code_35) rfl (XT.ll_ne_f hc64) k) ?_
      show own_Go p e below s _ _ _ (T63.setTop (mkF m 38 #[.val (.ref r), .val (.ref oo), .val (.ref oo)] []))
      refine own_st (fun _ k => XT.iconstV X63.here hx rfl (1 : Int32) (hb hby own_d_prog_96_method_4_code_38) (by decide) k) ?_
      show own_Go p e below s _ _ _ (T63.setTop (mkF m 39 #[.val (.ref r), .val (.ref oo), .val (.ref oo)] [(.int (1 : Int32))]))
      refine own_st (fun _ k => XS.goto X63.here hx rfl (pc0 := 39) (pc' := 43) rfl (hb hby own_d_prog_96_method_4_code_39) (by decide) (by decide) k) ?_
      show own_Go p e below s _ _ _ (T63.setTop (mkF m 43 #[.val (.ref r), .val (.ref oo), .val (.ref oo)] [(.int (1 : Int32))]))
      refine own_retN X63 hx hlk Bd.returns (t := .boolean) (z' := (1 : Int32)) (by simp) (by decide) (hb hby own_d_prog_96_method_4_code_43) (by decide) (by decide) ?_
      rw [e63]
      exact ⟨N0, (by rw [if_pos hc61, if_pos hc64]), rfl⟩
    · refine own_st (fun _ k => XS.ifYes X63.here hx rfl (pc0 := 35) (pc' := 42) rfl (hb hby own_d_prog_96_method_4_code_35) rfl (XT.ll_ne_t hc64) (by decide) (by decide) k) ?_
      show own_Go p e below s _ _ _ (T63.setTop (mkF m 42 #[.val (.ref r), .val (.ref oo), .val (.ref oo)] []))
      refine own_st (fun _ k => XT.iconstV X63.here hx rfl (0 : Int32) (hb hby own_d_prog_96_method_4_code_42) (by decide) k) ?_
      show own_Go p e below s _ _ _ (T63.setTop (mkF m 43 #[.val (.ref r), .val (.ref oo), .val (.ref oo)] [(.int (0 : Int32))]))
      refine own_retN X63 hx hlk Bd.returns (t := .boolean) (z' := (0 : Int32)) (by simp) (by decide) (hb hby own_d_prog_96_method_4_code_43) (by decide) (by decide) ?_
      rw [e63]
      exact ⟨N0, (by rw [if_pos hc61, if_neg hc64]), rfl⟩
  · refine own_st (fun _ k => XS.ifYes X60.here hx rfl (pc0 := 23) (pc' := 42) rfl (hb hby own_d_prog_96_method_4_code_23) rfl (XT.ll_ne_t hc61) (by decide) (by decide) k) ?_
    show own_Go p e below s _ _ _ (T60.setTop (mkF m 42 #[.val (.ref r), .val (.ref oo), .val (.ref oo)] []))
    refine own_st (fun _ k => XT.iconstV X60.here hx rfl (0 : Int32) (hb hby own_d_prog_96_method_4_code_42) (by decide) k) ?_
    show own_Go p e below s _ _ _ (T60.setTop (mkF m 43 #[.val (.ref r), .val (.ref oo), .val (.ref oo)] [(.int (0 : Int32))]))
    refine own_retN X60 hx hlk Bd.returns (t := .boolean) (z' := (0 : Int32)) (by simp) (by decide) (hb hby own_d_prog_96_method_4_code_43) (by decide) (by decide) ?_
    rw [e60]
    exact ⟨N0, (by rw [if_neg hc61]), rfl⟩
theorem own_pn5 : plainFor (⟨"com/example/epoch/epoch/protocol/record/AbortedTransactionEqualsPinLaw", "law", "(JJJJI)Z"⟩ : MethodName) = true := by decide +kernel
theorem own_pd2 : parseMethodDescriptor "(JJ)V" = some ⟨[.long, .long], none⟩ := by decide +kernel
theorem own_pd3 : parseMethodDescriptor "(Ljava/lang/Object;)Z" = some ⟨[(.object "java/lang/Object")], some .boolean⟩ := by decide +kernel
theorem own_pd4 : parseMethodDescriptor "(J)Ljava/lang/Long;" = some ⟨[.long], some (.object "java/lang/Long")⟩ := by decide +kernel
def own_law_Q (Z : State) (n0 : Nat) (v : Option Value) (h : Heap) (L : List Loc) : Prop := Fr n0 L ∧ v = some (.int 1)
theorem own_law_ef (m : MethodId) (p1 : Int64) (p2 : Int64) (p3 : Int64) (p4 : Int64) (p5 : Int32) : entryFrame m #[(.long p1), (.long p2), (.long p3), (.long p4), (.int p5)] maxLocals = mkF m 0 #[.val (.long p1), .second, .val (.long p2), .second, .val (.long p3), .second, .val (.long p4), .second, .val (.int p5), .unset, .unset, .unset, .unset, .unset, .unset, .unset, .unset, .unset, .unset] [] := by first | (simp [entryFrame, mkF, argsToLocals, Value.category, maxLocals]; done) | rfl
set_option maxRecDepth 65536 in
set_option maxHeartbeats 40000000 in
theorem own_law (l : Launch) (Z : State) (a0 : Array Value) (hw : ∀ d ∈ tables_1, d.before a0 Z = true) (ws : List Jvm.Cond) (p1 : Int64) (p2 : Int64) (p3 : Int64) (p4 : Int64) (p5 : Int32) (a_cacheJ : Addr) (h0 : Heap) (n0 : Nat) (Z0 : n0 ≤ h0.size) (O0 : Old Z n0 h0) (S_cacheJ : Sta Z Z.heap "java/lang/Long$LongCache" "cache" "[Ljava/lang/Long;" (.ref a_cacheJ)) (BxJ : own_BoxJ Z a_cacheJ) :
    MetFree l x (head1 (Jvm.Cond.code x code maxLocals ret :: ws) room_1) (fun a U => a = #[(.long p1), (.long p2), (.long p3), (.long p4), (.int p5)] ∧ Z.Warmed39 U.vm ∧ U.heap = h0) (fun _ _ _ _ _ => True) (fun _ U o U' => ∃ v L, o = .returned v ∧ own_law_Q Z n0 v U'.heap L ∧ FrameEnd U o U' L 16 128) := by
  refine MetFree.of_bodySF own_pn5 hisR ?_
  intro p e s m args below meth c s₁ Bd hml0 hP hK
  obtain ⟨rfl, hZ, hh⟩ := hP
  have hx := Bd.exec
  have hby := Bd.bytes
  have hml : c.maxLocals = 19 := hml0
  have hlk := BodyLoose.notSynchronized Bd
  have hown : s.vm.findClass "com/example/epoch/epoch/protocol/record/AbortedTransactionEqualsPinLaw" = some m.cls := findClass_of_methodNamed Bd.named
  have hnm := (name_of_methodNamed Bd.named Bd.method).1
  have X0 : Stand p l e room_1 s m #[(.long p1), (.long p2), (.long p3), (.long p4), (.int p5)] below meth c s₁ [] 0 0 := Stand.of_body Bd
  have e0 : s₁.heap = h0 := by rw [← hh, Bd.state]; rfl
  have N0 := Fr.nil n0
  show own_Go p e below s (own_law_Q Z n0) 16 128 (s₁.setTop (entryFrame m #[(.long p1), (.long p2), (.long p3), (.long p4), (.int p5)] maxLocals))
  rw [own_law_ef]
  show own_Go p e below s _ _ _ (s₁.setTop (mkF m 0 #[.val (.long p1), .second, .val (.long p2), .second, .val (.long p3), .second, .val (.long p4), .second, .val (.int p5), .unset, .unset, .unset, .unset, .unset, .unset, .unset, .unset, .unset, .unset] []))
  refine own_st (fun _ k => XS.iload X0.here hx rfl (hb hby at_0) rfl k) ?_
  show own_Go p e below s _ _ _ (s₁.setTop (mkF m 2 #[.val (.long p1), .second, .val (.long p2), .second, .val (.long p3), .second, .val (.long p4), .second, .val (.int p5), .unset, .unset, .unset, .unset, .unset, .unset, .unset, .unset, .unset, .unset] [(.int p5)]))
  refine own_st (fun _ k => XT.iconstV X0.here hx rfl (1 : Int32) (hb hby at_2) (by decide) k) ?_
  show own_Go p e below s _ _ _ (s₁.setTop (mkF m 3 #[.val (.long p1), .second, .val (.long p2), .second, .val (.long p3), .second, .val (.long p4), .second, .val (.int p5), .unset, .unset, .unset, .unset, .unset, .unset, .unset, .unset, .unset, .unset] [(.int (1 : Int32)), (.int p5)]))
  refine own_st (fun _ k => XS.iand X0.here hx rfl (hb hby at_3) rfl k) ?_
  show own_Go p e below s _ _ _ (s₁.setTop (mkF m 4 #[.val (.long p1), .second, .val (.long p2), .second, .val (.long p3), .second, .val (.long p4), .second, .val (.int p5), .unset, .unset, .unset, .unset, .unset, .unset, .unset, .unset, .unset, .unset] [(.int (p5 &&& (1 : Int32)))]))
  by_cases hc65 : (p5 &&& (1 : Int32)) = 0
  · refine own_st (fun _ k => XS.ifYes X0.here hx rfl (pc0 := 4) (pc' := 11) rfl (hb hby at_4) rfl (XT.i0_eq_t hc65) (by decide) (by decide) k) ?_
    show own_Go p e below s _ _ _ (s₁.setTop (mkF m 11 #[.val (.long p1), .second, .val (.long p2), .second, .val (.long p3), .second, .val (.long p4), .second, .val (.int p5), .unset, .unset, .unset, .unset, .unset, .unset, .unset, .unset, .unset, .unset] []))
    refine own_st (fun _ k => XT.lload X0.here hx rfl (hb hby at_11) rfl k) ?_
    show own_Go p e below s _ _ _ (s₁.setTop (mkF m 13 #[.val (.long p1), .second, .val (.long p2), .second, .val (.long p3), .second, .val (.long p4), .second, .val (.int p5), .unset, .unset, .unset, .unset, .unset, .unset, .unset, .unset, .unset, .unset] [(.long p3)]))
    refine own_st (fun _ k => XT.lstore X0.here hx rfl (hb hby at_13) rfl (l' := #[.val (.long p1), .second, .val (.long p2), .second, .val (.long p3), .second, .val (.long p4), .second, .val (.int p5), .val (.long p3), .second, .unset, .unset, .unset, .unset, .unset, .unset, .unset, .unset]) rfl k) ?_
    show own_Go p e below s _ _ _ (s₁.setTop (mkF m 15 #[.val (.long p1), .second, .val (.long p2), .second, .val (.long p3), .second, .val (.long p4), .second, .val (.int p5), .val (.long p3), .second, .unset, .unset, .unset, .unset, .unset, .unset, .unset, .unset] []))
    refine own_st (fun _ k => XS.iload X0.here hx rfl (hb hby at_15) rfl k) ?_
    show own_Go p e below s _ _ _ (s₁.setTop (mkF m 17 #[.val (.long p1), .second, .val (.long p2), .second, .val (.long p3), .second, .val (.long p4), .second, .val (.int p5), .val (.long p3), .second, .unset, .unset, .unset, .unset, .unset, .unset, .unset, .unset] [(.int p5)]))
    refine own_st (fun _ k => XT.iconstV X0.here hx rfl (2 : Int32) (hb hby at_17) (by decide) k) ?_
    show own_Go p e below s _ _ _ (s₁.setTop (mkF m 18 #[.val (.long p1), .second, .val (.long p2), .second, .val (.long p3), .second, .val (.long p4), .second, .val (.int p5), .val (.long p3), .second, .unset, .unset, .unset, .unset, .unset, .unset, .unset, .unset] [(.int (2 : Int32)), (.int p5)]))
    refine own_st (fun _ k => XS.iand X0.here hx rfl (hb hby at_18) rfl k) ?_
    show own_Go p e below s _ _ _ (s₁.setTop (mkF m 19 #[.val (.long p1), .second, .val (.long p2), .second, .val (.long p3), .second, .val (.long p4), .second, .val (.int p5), .val (.long p3), .second, .unset, .unset, .unset, .unset, .unset, .unset, .unset, .unset] [(.int (p5 &&& (2 : Int32)))]))
    by_cases hc66 : (p5 &&& (2 : Int32)) = 0
    · refine own_st (fun _ k => XS.ifYes X0.here hx rfl (pc0 := 19) (pc' := 26) rfl (hb hby at_19) rfl (XT.i0_eq_t hc66) (by decide) (by decide) k) ?_
      show own_Go p e below s _ _ _ (s₁.setTop (mkF m 26 #[.val (.long p1), .second, .val (.long p2), .second, .val (.long p3), .second, .val (.long p4), .second, .val (.int p5), .val (.long p3), .second, .unset, .unset, .unset, .unset, .unset, .unset, .unset, .unset] []))
      refine own_st (fun _ k => XT.lload X0.here hx rfl (hb hby at_26) rfl k) ?_
      show own_Go p e below s _ _ _ (s₁.setTop (mkF m 28 #[.val (.long p1), .second, .val (.long p2), .second, .val (.long p3), .second, .val (.long p4), .second, .val (.int p5), .val (.long p3), .second, .unset, .unset, .unset, .unset, .unset, .unset, .unset, .unset] [(.long p4)]))
      refine own_st (fun _ k => XT.lstore X0.here hx rfl (hb hby at_28) rfl (l' := #[.val (.long p1), .second, .val (.long p2), .second, .val (.long p3), .second, .val (.long p4), .second, .val (.int p5), .val (.long p3), .second, .val (.long p4), .second, .unset, .unset, .unset, .unset, .unset, .unset]) rfl k) ?_
      show own_Go p e below s _ _ _ (s₁.setTop (mkF m 30 #[.val (.long p1), .second, .val (.long p2), .second, .val (.long p3), .second, .val (.long p4), .second, .val (.int p5), .val (.long p3), .second, .val (.long p4), .second, .unset, .unset, .unset, .unset, .unset, .unset] []))
      refine own_st (fun _ k => XS.iload X0.here hx rfl (hb hby at_30) rfl k) ?_
      show own_Go p e below s _ _ _ (s₁.setTop (mkF m 32 #[.val (.long p1), .second, .val (.long p2), .second, .val (.long p3), .second, .val (.long p4), .second, .val (.int p5), .val (.long p3), .second, .val (.long p4), .second, .unset, .unset, .unset, .unset, .unset, .unset] [(.int p5)]))
      refine own_st (fun _ k => XT.iconstV X0.here hx rfl (2 : Int32) (hb hby at_32) (by decide) k) ?_
      show own_Go p e below s _ _ _ (s₁.setTop (mkF m 33 #[.val (.long p1), .second, .val (.long p2), .second, .val (.long p3), .second, .val (.long p4), .second, .val (.int p5), .val (.long p3), .second, .val (.long p4), .second, .unset, .unset, .unset, .unset, .unset, .unset] [(.int (2 : Int32)), (.int p5)]))
      refine own_st (fun _ k => XT.iushr X0.here hx rfl (hb hby at_33) rfl k) ?_
      show own_Go p e below s _ _ _ (s₁.setTop (mkF m 34 #[.val (.long p1), .second, .val (.long p2), .second, .val (.long p3), .second, .val (.long p4), .second, .val (.int p5), .val (.long p3), .second, .val (.long p4), .second, .unset, .unset, .unset, .unset, .unset, .unset] [(.int (XT.ushr p5 (2 : Int32)))]))
      refine own_st (fun _ k => XT.iconstV X0.here hx rfl (3 : Int32) (hb hby at_34) (by decide) k) ?_
      show own_Go p e below s _ _ _ (s₁.setTop (mkF m 35 #[.val (.long p1), .second, .val (.long p2), .second, .val (.long p3), .second, .val (.long p4), .second, .val (.int p5), .val (.long p3), .second, .val (.long p4), .second, .unset, .unset, .unset, .unset, .unset, .unset] [(.int (3 : Int32)), (.int (XT.ushr p5 (2 : Int32)))]))
      refine own_st (fun _ k => XS.iand X0.here hx rfl (hb hby at_35) rfl k) ?_
      show own_Go p e below s _ _ _ (s₁.setTop (mkF m 36 #[.val (.long p1), .second, .val (.long p2), .second, .val (.long p3), .second, .val (.long p4), .second, .val (.int p5), .val (.long p3), .second, .val (.long p4), .second, .unset, .unset, .unset, .unset, .unset, .unset] [(.int ((XT.ushr p5 (2 : Int32)) &&& (3 : Int32)))]))
      refine own_st (fun _ k => XS.istore X0.here hx rfl (hb hby at_36) rfl (l' := #[.val (.long p1), .second, .val (.long p2), .second, .val (.long p3), .second, .val (.long p4), .second, .val (.int p5), .val (.long p3), .second, .val (.long p4), .second, .val (.int ((XT.ushr p5 (2 : Int32)) &&& (3 : Int32))), .unset, .unset, .unset, .unset, .unset]) rfl k) ?_
      show own_Go p e below s _ _ _ (s₁.setTop (mkF m 38 #[.val (.long p1), .second, .val (.long p2), .second, .val (.long p3), .second, .val (.long p4), .second, .val (.int p5), .val (.long p3), .second, .val (.long p4), .second, .val (.int ((XT.ushr p5 (2 : Int32)) &&& (3 : Int32))), .unset, .unset, .unset, .unset, .unset] []))
      obtain ⟨T67, h67, X67, e67, E67, A67, D67, -, st67⟩ := newO X0 hx hZ hown (hw _ (List.mem_of_getElem? (i := 0) rfl)) (hw _ (List.mem_of_getElem? (i := 1) rfl)) (hw _ (List.mem_of_getElem? (i := 2) rfl)) e0 (g := (mkF m 38 #[.val (.long p1), .second, .val (.long p2), .second, .val (.long p3), .second, .val (.long p4), .second, .val (.int p5), .val (.long p3), .second, .val (.long p4), .second, .val (.int ((XT.ushr p5 (2 : Int32)) &&& (3 : Int32))), .unset, .unset, .unset, .unset, .unset] [])) rfl (hb hby at_38) (by decide) (by decide)
      obtain ⟨b67, g67⟩ : ∃ z, z = h0.size := ⟨_, rfl⟩
      rw [← g67] at A67 D67 st67
      refine own_st st67 ?_
      have Zs68 : n0 ≤ h67.size := Nat.le_trans Z0 E67.1
      have g69 : n0 ≤ b67 := Nat.le_trans Z0 (Nat.le_of_eq g67.symm)
      have F70 : Fld Z h67 b67 "com/example/epoch/epoch/protocol/record/AbortedTransaction" "producerId" "J" (.long (0 : Int64)) := D67 (Or.inr (hw _ (List.mem_of_getElem? (i := 10) rfl))) (ty := .long) (by decide)
      have F71 : Fld Z h67 b67 "com/example/epoch/epoch/protocol/record/AbortedTransaction" "firstOffset" "J" (.long (0 : Int64)) := D67 (Or.inr (hw _ (List.mem_of_getElem? (i := 12) rfl))) (ty := .long) (by decide)
      show own_Go p e below s _ _ _ (T67.setTop (mkF m 41 #[.val (.long p1), .second, .val (.long p2), .second, .val (.long p3), .second, .val (.long p4), .second, .val (.int p5), .val (.long p3), .second, .val (.long p4), .second, .val (.int ((XT.ushr p5 (2 : Int32)) &&& (3 : Int32))), .unset, .unset, .unset, .unset, .unset] [(.ref b67)]))
      refine own_st (fun _ k => XS.dup X67.here hx rfl (hb hby at_41) rfl rfl k) ?_
      show own_Go p e below s _ _ _ (T67.setTop (mkF m 42 #[.val (.long p1), .second, .val (.long p2), .second, .val (.long p3), .second, .val (.long p4), .second, .val (.int p5), .val (.long p3), .second, .val (.long p4), .second, .val (.int ((XT.ushr p5 (2 : Int32)) &&& (3 : Int32))), .unset, .unset, .unset, .unset, .unset] [(.ref b67), (.ref b67)]))
      refine own_st (fun _ k => XT.lloadN X67.here hx rfl (hb hby at_42) rfl k) ?_
      show own_Go p e below s _ _ _ (T67.setTop (mkF m 43 #[.val (.long p1), .second, .val (.long p2), .second, .val (.long p3), .second, .val (.long p4), .second, .val (.int p5), .val (.long p3), .second, .val (.long p4), .second, .val (.int ((XT.ushr p5 (2 : Int32)) &&& (3 : Int32))), .unset, .unset, .unset, .unset, .unset] [(.long p1), (.ref b67), (.ref b67)]))
      refine own_st (fun _ k => XT.lloadN X67.here hx rfl (hb hby at_43) rfl k) ?_
      show own_Go p e below s _ _ _ (T67.setTop (mkF m 44 #[.val (.long p1), .second, .val (.long p2), .second, .val (.long p3), .second, .val (.long p4), .second, .val (.int p5), .val (.long p3), .second, .val (.long p4), .second, .val (.int ((XT.ushr p5 (2 : Int32)) &&& (3 : Int32))), .unset, .unset, .unset, .unset, .unset] [(.long p2), (.long p1), (.ref b67), (.ref b67)]))
      obtain ⟨_, _, ⟨T72, L72, k72, n72⟩, -, X72, ⟨Lc72, hQ72, l72, y72, z72⟩, st72⟩ := X67.specialBack hx (y := (⟨"com/example/epoch/epoch/protocol/record/AbortedTransaction", "<init>", "(JJ)V"⟩ : MethodName)) rfl hown (mvT hZ (hw _ (List.mem_of_getElem? (i := 3) rfl))) (mvT hZ (hw _ (List.mem_of_getElem? (i := 4) rfl))) (mvT hZ (hw _ (List.mem_of_getElem? (i := 5) rfl))) (by decide) (backOf (W := 1) (own_rm_init l Z a0 hw [] b67 p1 p2 h67 n0 Zs68 A67 F70 F71 g69) hZ (hw _ (List.mem_of_getElem? (i := 5) rfl)) (hw _ (List.mem_of_getElem? (i := 2) rfl)) (by decide) (by decide)) (g := (mkF m 44 #[.val (.long p1), .second, .val (.long p2), .second, .val (.long p3), .second, .val (.long p4), .second, .val (.int p5), .val (.long p3), .second, .val (.long p4), .second, .val (.int ((XT.ushr p5 (2 : Int32)) &&& (3 : Int32))), .unset, .unset, .unset, .unset, .unset] [(.long p2), (.long p1), (.ref b67), (.ref b67)])) rfl (by rw [hml]; rfl) (Steps.refl _) (a := b67) (argsL := [(.long p1), (.long p2)]) (rest := [(.ref b67)]) (lenOf own_pd2 rfl) rfl (by show 2 * 0 + _ ≤ _; exact Nat.le_of_eq rfl) (hb hby at_44) (fun _ _ => ⟨rfl, e67, (by decide : 1 + 0 ≤ _), (by decide : 2 + 0 ≤ _)⟩)
      dsimp only [Pt.U, Pt.locs, Pt.cells, Pt.slots] at X72 l72 y72 z72 st72 hQ72
      subst l72 y72 z72
      obtain ⟨N72q, rfl, K72, q73, q74, q75⟩ := hQ72
      have N76 := Fr.app N0 N72q
      refine own_tr st72 ?_
      have Zs77 : n0 ≤ T72.heap.size := Nat.le_trans Zs68 K72.1
      show own_Go p e below s _ _ _ (T72.setTop (mkF m 47 #[.val (.long p1), .second, .val (.long p2), .second, .val (.long p3), .second, .val (.long p4), .second, .val (.int p5), .val (.long p3), .second, .val (.long p4), .second, .val (.int ((XT.ushr p5 (2 : Int32)) &&& (3 : Int32))), .unset, .unset, .unset, .unset, .unset] [(.ref b67)]))
      refine own_st (fun _ k => XS.astore X72.here hx rfl (hb hby at_47) rfl rfl (l' := #[.val (.long p1), .second, .val (.long p2), .second, .val (.long p3), .second, .val (.long p4), .second, .val (.int p5), .val (.long p3), .second, .val (.long p4), .second, .val (.int ((XT.ushr p5 (2 : Int32)) &&& (3 : Int32))), .val (.ref b67), .unset, .unset, .unset, .unset]) rfl k) ?_
      show own_Go p e below s _ _ _ (T72.setTop (mkF m 49 #[.val (.long p1), .second, .val (.long p2), .second, .val (.long p3), .second, .val (.long p4), .second, .val (.int p5), .val (.long p3), .second, .val (.long p4), .second, .val (.int ((XT.ushr p5 (2 : Int32)) &&& (3 : Int32))), .val (.ref b67), .unset, .unset, .unset, .unset] []))
      refine own_st (fun _ k => XS.iload X72.here hx rfl (hb hby at_49) rfl k) ?_
      show own_Go p e below s _ _ _ (T72.setTop (mkF m 51 #[.val (.long p1), .second, .val (.long p2), .second, .val (.long p3), .second, .val (.long p4), .second, .val (.int p5), .val (.long p3), .second, .val (.long p4), .second, .val (.int ((XT.ushr p5 (2 : Int32)) &&& (3 : Int32))), .val (.ref b67), .unset, .unset, .unset, .unset] [(.int ((XT.ushr p5 (2 : Int32)) &&& (3 : Int32)))]))
      by_cases hc78 : ((XT.ushr p5 (2 : Int32)) &&& (3 : Int32)) = 0
      · refine own_st (fun _ k => XS.ifNo X72.here hx rfl (hb hby at_51) rfl (XT.i0_ne_f hc78) k) ?_
        show own_Go p e below s _ _ _ (T72.setTop (mkF m 54 #[.val (.long p1), .second, .val (.long p2), .second, .val (.long p3), .second, .val (.long p4), .second, .val (.int p5), .val (.long p3), .second, .val (.long p4), .second, .val (.int ((XT.ushr p5 (2 : Int32)) &&& (3 : Int32))), .val (.ref b67), .unset, .unset, .unset, .unset] []))
        obtain ⟨T79, h79, X79, e79, E79, A79, D79, -, st79⟩ := newO X72 hx hZ hown (hw _ (List.mem_of_getElem? (i := 0) rfl)) (hw _ (List.mem_of_getElem? (i := 1) rfl)) (hw _ (List.mem_of_getElem? (i := 2) rfl)) rfl (g := (mkF m 54 #[.val (.long p1), .second, .val (.long p2), .second, .val (.long p3), .second, .val (.long p4), .second, .val (.int p5), .val (.long p3), .second, .val (.long p4), .second, .val (.int ((XT.ushr p5 (2 : Int32)) &&& (3 : Int32))), .val (.ref b67), .unset, .unset, .unset, .unset] [])) rfl (hb hby at_54) (by decide) (by decide)
        obtain ⟨b79, g79⟩ : ∃ z, z = T72.heap.size := ⟨_, rfl⟩
        rw [← g79] at A79 D79 st79
        refine own_st st79 ?_
        have Zs80 : n0 ≤ h79.size := Nat.le_trans Zs77 E79.1
        have g81 : n0 ≤ b79 := Nat.le_trans Zs77 (Nat.le_of_eq g79.symm)
        have F82 : Fld Z h79 b79 "com/example/epoch/epoch/protocol/record/AbortedTransaction" "producerId" "J" (.long (0 : Int64)) := D79 (Or.inr (hw _ (List.mem_of_getElem? (i := 10) rfl))) (ty := .long) (by decide)
        have F83 : Fld Z h79 b79 "com/example/epoch/epoch/protocol/record/AbortedTransaction" "firstOffset" "J" (.long (0 : Int64)) := D79 (Or.inr (hw _ (List.mem_of_getElem? (i := 12) rfl))) (ty := .long) (by decide)
        show own_Go p e below s _ _ _ (T79.setTop (mkF m 57 #[.val (.long p1), .second, .val (.long p2), .second, .val (.long p3), .second, .val (.long p4), .second, .val (.int p5), .val (.long p3), .second, .val (.long p4), .second, .val (.int ((XT.ushr p5 (2 : Int32)) &&& (3 : Int32))), .val (.ref b67), .unset, .unset, .unset, .unset] [(.ref b79)]))
        refine own_st (fun _ k => XS.dup X79.here hx rfl (hb hby at_57) rfl rfl k) ?_
        show own_Go p e below s _ _ _ (T79.setTop (mkF m 58 #[.val (.long p1), .second, .val (.long p2), .second, .val (.long p3), .second, .val (.long p4), .second, .val (.int p5), .val (.long p3), .second, .val (.long p4), .second, .val (.int ((XT.ushr p5 (2 : Int32)) &&& (3 : Int32))), .val (.ref b67), .unset, .unset, .unset, .unset] [(.ref b79), (.ref b79)]))
        refine own_st (fun _ k => XT.lload X79.here hx rfl (hb hby at_58) rfl k) ?_
        show own_Go p e below s _ _ _ (T79.setTop (mkF m 60 #[.val (.long p1), .second, .val (.long p2), .second, .val (.long p3), .second, .val (.long p4), .second, .val (.int p5), .val (.long p3), .second, .val (.long p4), .second, .val (.int ((XT.ushr p5 (2 : Int32)) &&& (3 : Int32))), .val (.ref b67), .unset, .unset, .unset, .unset] [(.long p3), (.ref b79), (.ref b79)]))
        refine own_st (fun _ k => XT.lload X79.here hx rfl (hb hby at_60) rfl k) ?_
        show own_Go p e below s _ _ _ (T79.setTop (mkF m 62 #[.val (.long p1), .second, .val (.long p2), .second, .val (.long p3), .second, .val (.long p4), .second, .val (.int p5), .val (.long p3), .second, .val (.long p4), .second, .val (.int ((XT.ushr p5 (2 : Int32)) &&& (3 : Int32))), .val (.ref b67), .unset, .unset, .unset, .unset] [(.long p4), (.long p3), (.ref b79), (.ref b79)]))
        obtain ⟨_, _, ⟨T84, L84, k84, n84⟩, -, X84, ⟨Lc84, hQ84, l84, y84, z84⟩, st84⟩ := X79.specialBack hx (y := (⟨"com/example/epoch/epoch/protocol/record/AbortedTransaction", "<init>", "(JJ)V"⟩ : MethodName)) rfl hown (mvT hZ (hw _ (List.mem_of_getElem? (i := 3) rfl))) (mvT hZ (hw _ (List.mem_of_getElem? (i := 4) rfl))) (mvT hZ (hw _ (List.mem_of_getElem? (i := 5) rfl))) (by decide) (backOf (W := 1) (own_rm_init l Z a0 hw [] b79 p3 p4 h79 n0 Zs80 A79 F82 F83 g81) hZ (hw _ (List.mem_of_getElem? (i := 5) rfl)) (hw _ (List.mem_of_getElem? (i := 2) rfl)) (by decide) (by decide)) (g := (mkF m 62 #[.val (.long p1), .second, .val (.long p2), .second, .val (.long p3), .second, .val (.long p4), .second, .val (.int p5), .val (.long p3), .second, .val (.long p4), .second, .val (.int ((XT.ushr p5 (2 : Int32)) &&& (3 : Int32))), .val (.ref b67), .unset, .unset, .unset, .unset] [(.long p4), (.long p3), (.ref b79), (.ref b79)])) rfl (by rw [hml]; rfl) (Steps.refl _) (a := b79) (argsL := [(.long p3), (.long p4)]) (rest := [(.ref b79)]) (lenOf own_pd2 rfl) rfl (by show 2 * 0 + _ ≤ _; exact Nat.le_of_eq rfl) (hb hby at_62) (fun _ _ => ⟨rfl, e79, (by decide : 2 + 0 ≤ _), (by decide : 4 + 0 ≤ _)⟩)
        dsimp only [Pt.U, Pt.locs, Pt.cells, Pt.slots] at X84 l84 y84 z84 st84 hQ84
        subst l84 y84 z84
        obtain ⟨N84q, rfl, K84, q85, q86, q87⟩ := hQ84
        have N88 := Fr.app N76 N84q
        refine own_tr st84 ?_
        have Zs89 : n0 ≤ T84.heap.size := Nat.le_trans Zs80 K84.1
        show own_Go p e below s _ _ _ (T84.setTop (mkF m 65 #[.val (.long p1), .second, .val (.long p2), .second, .val (.long p3), .second, .val (.long p4), .second, .val (.int p5), .val (.long p3), .second, .val (.long p4), .second, .val (.int ((XT.ushr p5 (2 : Int32)) &&& (3 : Int32))), .val (.ref b67), .unset, .unset, .unset, .unset] [(.ref b79)]))
        refine own_st (fun _ k => XS.astore X84.here hx rfl (hb hby at_65) rfl rfl (l' := #[.val (.long p1), .second, .val (.long p2), .second, .val (.long p3), .second, .val (.long p4), .second, .val (.int p5), .val (.long p3), .second, .val (.long p4), .second, .val (.int ((XT.ushr p5 (2 : Int32)) &&& (3 : Int32))), .val (.ref b67), .val (.ref b79), .unset, .unset, .unset]) rfl k) ?_
        show own_Go p e below s _ _ _ (T84.setTop (mkF m 67 #[.val (.long p1), .second, .val (.long p2), .second, .val (.long p3), .second, .val (.long p4), .second, .val (.int p5), .val (.long p3), .second, .val (.long p4), .second, .val (.int ((XT.ushr p5 (2 : Int32)) &&& (3 : Int32))), .val (.ref b67), .val (.ref b79), .unset, .unset, .unset] []))
        refine own_st (fun _ k => XT.lloadN X84.here hx rfl (hb hby at_67) rfl k) ?_
        show own_Go p e below s _ _ _ (T84.setTop (mkF m 68 #[.val (.long p1), .second, .val (.long p2), .second, .val (.long p3), .second, .val (.long p4), .second, .val (.int p5), .val (.long p3), .second, .val (.long p4), .second, .val (.int ((XT.ushr p5 (2 : Int32)) &&& (3 : Int32))), .val (.ref b67), .val (.ref b79), .unset, .unset, .unset] [(.long p1)]))
        refine own_st (fun _ k => XT.lload X84.here hx rfl (hb hby at_68) rfl k) ?_
        show own_Go p e below s _ _ _ (T84.setTop (mkF m 70 #[.val (.long p1), .second, .val (.long p2), .second, .val (.long p3), .second, .val (.long p4), .second, .val (.int p5), .val (.long p3), .second, .val (.long p4), .second, .val (.int ((XT.ushr p5 (2 : Int32)) &&& (3 : Int32))), .val (.ref b67), .val (.ref b79), .unset, .unset, .unset] [(.long p3), (.long p1)]))
        refine own_st (fun _ k => XT.lcmp X84.here hx rfl (hb hby at_70) rfl k) ?_
        show own_Go p e below s _ _ _ (T84.setTop (mkF m 71 #[.val (.long p1), .second, .val (.long p2), .second, .val (.long p3), .second, .val (.long p4), .second, .val (.int p5), .val (.long p3), .second, .val (.long p4), .second, .val (.int ((XT.ushr p5 (2 : Int32)) &&& (3 : Int32))), .val (.ref b67), .val (.ref b79), .unset, .unset, .unset] [(.int (XT.cmpL p1 p3))]))
        by_cases hc90 : p1 = p3
        · refine own_st (fun _ k => XS.ifNo X84.here hx rfl (hb hby at_71) rfl (XT.ll_ne_f hc90) k) ?_
          show own_Go p e below s _ _ _ (T84.setTop (mkF m 74 #[.val (.long p1), .second, .val (.long p2), .second, .val (.long p3), .second, .val (.long p4), .second, .val (.int p5), .val (.long p3), .second, .val (.long p4), .second, .val (.int ((XT.ushr p5 (2 : Int32)) &&& (3 : Int32))), .val (.ref b67), .val (.ref b79), .unset, .unset, .unset] []))
          refine own_st (fun _ k => XT.iconstV X84.here hx rfl (1 : Int32) (hb hby at_74) (by decide) k) ?_
          show own_Go p e below s _ _ _ (T84.setTop (mkF m 75 #[.val (.long p1), .second, .val (.long p2), .second, .val (.long p3), .second, .val (.long p4), .second, .val (.int p5), .val (.long p3), .second, .val (.long p4), .second, .val (.int ((XT.ushr p5 (2 : Int32)) &&& (3 : Int32))), .val (.ref b67), .val (.ref b79), .unset, .unset, .unset] [(.int (1 : Int32))]))
          refine own_st (fun _ k => XS.goto X84.here hx rfl (pc0 := 75) (pc' := 79) rfl (hb hby at_75) (by decide) (by decide) k) ?_
          show own_Go p e below s _ _ _ (T84.setTop (mkF m 79 #[.val (.long p1), .second, .val (.long p2), .second, .val (.long p3), .second, .val (.long p4), .second, .val (.int p5), .val (.long p3), .second, .val (.long p4), .second, .val (.int ((XT.ushr p5 (2 : Int32)) &&& (3 : Int32))), .val (.ref b67), .val (.ref b79), .unset, .unset, .unset] [(.int (1 : Int32))]))
          refine own_st (fun _ k => XS.istore X84.here hx rfl (hb hby at_79) rfl (l' := #[.val (.long p1), .second, .val (.long p2), .second, .val (.long p3), .second, .val (.long p4), .second, .val (.int p5), .val (.long p3), .second, .val (.long p4), .second, .val (.int ((XT.ushr p5 (2 : Int32)) &&& (3 : Int32))), .val (.ref b67), .val (.ref b79), .unset, .val (.int (1 : Int32)), .unset]) rfl k) ?_
          show own_Go p e below s _ _ _ (T84.setTop (mkF m 81 #[.val (.long p1), .second, .val (.long p2), .second, .val (.long p3), .second, .val (.long p4), .second, .val (.int p5), .val (.long p3), .second, .val (.long p4), .second, .val (.int ((XT.ushr p5 (2 : Int32)) &&& (3 : Int32))), .val (.ref b67), .val (.ref b79), .unset, .val (.int (1 : Int32)), .unset] []))
          refine own_st (fun _ k => XT.lloadN X84.here hx rfl (hb hby at_81) rfl k) ?_
          show own_Go p e below s _ _ _ (T84.setTop (mkF m 82 #[.val (.long p1), .second, .val (.long p2), .second, .val (.long p3), .second, .val (.long p4), .second, .val (.int p5), .val (.long p3), .second, .val (.long p4), .second, .val (.int ((XT.ushr p5 (2 : Int32)) &&& (3 : Int32))), .val (.ref b67), .val (.ref b79), .unset, .val (.int (1 : Int32)), .unset] [(.long p2)]))
          refine own_st (fun _ k => XT.lload X84.here hx rfl (hb hby at_82) rfl k) ?_
          show own_Go p e below s _ _ _ (T84.setTop (mkF m 84 #[.val (.long p1), .second, .val (.long p2), .second, .val (.long p3), .second, .val (.long p4), .second, .val (.int p5), .val (.long p3), .second, .val (.long p4), .second, .val (.int ((XT.ushr p5 (2 : Int32)) &&& (3 : Int32))), .val (.ref b67), .val (.ref b79), .unset, .val (.int (1 : Int32)), .unset] [(.long p4), (.long p2)]))
          refine own_st (fun _ k => XT.lcmp X84.here hx rfl (hb hby at_84) rfl k) ?_
          show own_Go p e below s _ _ _ (T84.setTop (mkF m 85 #[.val (.long p1), .second, .val (.long p2), .second, .val (.long p3), .second, .val (.long p4), .second, .val (.int p5), .val (.long p3), .second, .val (.long p4), .second, .val (.int ((XT.ushr p5 (2 : Int32)) &&& (3 : Int32))), .val (.ref b67), .val (.ref b79), .unset, .val (.int (1 : Int32)), .unset] [(.int (XT.cmpL p2 p4))]))
          by_cases hc91 : p2 = p4
          · refine own_st (fun _ k => XS.ifNo X84.here hx rfl (hb hby at_85) rfl (XT.ll_ne_f hc91) k) ?_
            show own_Go p e below s _ _ _ (T84.setTop (mkF m 88 #[.val (.long p1), .second, .val (.long p2), .second, .val (.long p3), .second, .val (.long p4), .second, .val (.int p5), .val (.long p3), .second, .val (.long p4), .second, .val (.int ((XT.ushr p5 (2 : Int32)) &&& (3 : Int32))), .val (.ref b67), .val (.ref b79), .unset, .val (.int (1 : Int32)), .unset] []))
            refine own_st (fun _ k => XT.iconstV X84.here hx rfl (1 : Int32) (hb hby at_88) (by decide) k) ?_
            show own_Go p e below s _ _ _ (T84.setTop (mkF m 89 #[.val (.long p1), .second, .val (.long p2), .second, .val (.long p3), .second, .val (.long p4), .second, .val (.int p5), .val (.long p3), .second, .val (.long p4), .second, .val (.int ((XT.ushr p5 (2 : Int32)) &&& (3 : Int32))), .val (.ref b67), .val (.ref b79), .unset, .val (.int (1 : Int32)), .unset] [(.int (1 : Int32))]))
            refine own_st (fun _ k => XS.goto X84.here hx rfl (pc0 := 89) (pc' := 93) rfl (hb hby at_89) (by decide) (by decide) k) ?_
            show own_Go p e below s _ _ _ (T84.setTop (mkF m 93 #[.val (.long p1), .second, .val (.long p2), .second, .val (.long p3), .second, .val (.long p4), .second, .val (.int p5), .val (.long p3), .second, .val (.long p4), .second, .val (.int ((XT.ushr p5 (2 : Int32)) &&& (3 : Int32))), .val (.ref b67), .val (.ref b79), .unset, .val (.int (1 : Int32)), .unset] [(.int (1 : Int32))]))
            refine own_st (fun _ k => XS.istore X84.here hx rfl (hb hby at_93) rfl (l' := #[.val (.long p1), .second, .val (.long p2), .second, .val (.long p3), .second, .val (.long p4), .second, .val (.int p5), .val (.long p3), .second, .val (.long p4), .second, .val (.int ((XT.ushr p5 (2 : Int32)) &&& (3 : Int32))), .val (.ref b67), .val (.ref b79), .unset, .val (.int (1 : Int32)), .val (.int (1 : Int32))]) rfl k) ?_
            show own_Go p e below s _ _ _ (T84.setTop (mkF m 95 #[.val (.long p1), .second, .val (.long p2), .second, .val (.long p3), .second, .val (.long p4), .second, .val (.int p5), .val (.long p3), .second, .val (.long p4), .second, .val (.int ((XT.ushr p5 (2 : Int32)) &&& (3 : Int32))), .val (.ref b67), .val (.ref b79), .unset, .val (.int (1 : Int32)), .val (.int (1 : Int32))] []))
            refine own_st (fun _ k => XS.iload X84.here hx rfl (hb hby at_95) rfl k) ?_
            show own_Go p e below s _ _ _ (T84.setTop (mkF m 97 #[.val (.long p1), .second, .val (.long p2), .second, .val (.long p3), .second, .val (.long p4), .second, .val (.int p5), .val (.long p3), .second, .val (.long p4), .second, .val (.int ((XT.ushr p5 (2 : Int32)) &&& (3 : Int32))), .val (.ref b67), .val (.ref b79), .unset, .val (.int (1 : Int32)), .val (.int (1 : Int32))] [(.int (1 : Int32))]))
            refine own_st (fun _ k => XS.ifNo X84.here hx rfl (hb hby at_97) rfl (XT.i0_eq_f (by decide)) k) ?_
            show own_Go p e below s _ _ _ (T84.setTop (mkF m 100 #[.val (.long p1), .second, .val (.long p2), .second, .val (.long p3), .second, .val (.long p4), .second, .val (.int p5), .val (.long p3), .second, .val (.long p4), .second, .val (.int ((XT.ushr p5 (2 : Int32)) &&& (3 : Int32))), .val (.ref b67), .val (.ref b79), .unset, .val (.int (1 : Int32)), .val (.int (1 : Int32))] []))
            refine own_st (fun _ k => XS.iload X84.here hx rfl (hb hby at_100) rfl k) ?_
            show own_Go p e below s _ _ _ (T84.setTop (mkF m 102 #[.val (.long p1), .second, .val (.long p2), .second, .val (.long p3), .second, .val (.long p4), .second, .val (.int p5), .val (.long p3), .second, .val (.long p4), .second, .val (.int ((XT.ushr p5 (2 : Int32)) &&& (3 : Int32))), .val (.ref b67), .val (.ref b79), .unset, .val (.int (1 : Int32)), .val (.int (1 : Int32))] [(.int (1 : Int32))]))
            refine own_st (fun _ k => XS.ifNo X84.here hx rfl (hb hby at_102) rfl (XT.i0_eq_f (by decide)) k) ?_
            show own_Go p e below s _ _ _ (T84.setTop (mkF m 105 #[.val (.long p1), .second, .val (.long p2), .second, .val (.long p3), .second, .val (.long p4), .second, .val (.int p5), .val (.long p3), .second, .val (.long p4), .second, .val (.int ((XT.ushr p5 (2 : Int32)) &&& (3 : Int32))), .val (.ref b67), .val (.ref b79), .unset, .val (.int (1 : Int32)), .val (.int (1 : Int32))] []))
            refine own_st (fun _ k => XT.iconstV X84.here hx rfl (1 : Int32) (hb hby at_105) (by decide) k) ?_
            show own_Go p e below s _ _ _ (T84.setTop (mkF m 106 #[.val (.long p1), .second, .val (.long p2), .second, .val (.long p3), .second, .val (.long p4), .second, .val (.int p5), .val (.long p3), .second, .val (.long p4), .second, .val (.int ((XT.ushr p5 (2 : Int32)) &&& (3 : Int32))), .val (.ref b67), .val (.ref b79), .unset, .val (.int (1 : Int32)), .val (.int (1 : Int32))] [(.int (1 : Int32))]))
            refine own_st (fun _ k => XS.goto X84.here hx rfl (pc0 := 106) (pc' := 110) rfl (hb hby at_106) (by decide) (by decide) k) ?_
            show own_Go p e below s _ _ _ (T84.setTop (mkF m 110 #[.val (.long p1), .second, .val (.long p2), .second, .val (.long p3), .second, .val (.long p4), .second, .val (.int p5), .val (.long p3), .second, .val (.long p4), .second, .val (.int ((XT.ushr p5 (2 : Int32)) &&& (3 : Int32))), .val (.ref b67), .val (.ref b79), .unset, .val (.int (1 : Int32)), .val (.int (1 : Int32))] [(.int (1 : Int32))]))
            refine own_st (fun _ k => XS.istore X84.here hx rfl (hb hby at_110) rfl (l' := #[.val (.long p1), .second, .val (.long p2), .second, .val (.long p3), .second, .val (.long p4), .second, .val (.int p5), .val (.long p3), .second, .val (.long p4), .second, .val (.int ((XT.ushr p5 (2 : Int32)) &&& (3 : Int32))), .val (.ref b67), .val (.ref b79), .val (.int (1 : Int32)), .val (.int (1 : Int32)), .val (.int (1 : Int32))]) rfl k) ?_
            show own_Go p e below s _ _ _ (T84.setTop (mkF m 112 #[.val (.long p1), .second, .val (.long p2), .second, .val (.long p3), .second, .val (.long p4), .second, .val (.int p5), .val (.long p3), .second, .val (.long p4), .second, .val (.int ((XT.ushr p5 (2 : Int32)) &&& (3 : Int32))), .val (.ref b67), .val (.ref b79), .val (.int (1 : Int32)), .val (.int (1 : Int32)), .val (.int (1 : Int32))] []))
            refine own_st (fun _ k => XS.goto X84.here hx rfl (pc0 := 112) (pc' := 155) rfl (hb hby at_112) (by decide) (by decide) k) ?_
            show own_Go p e below s _ _ _ (T84.setTop (mkF m 155 #[.val (.long p1), .second, .val (.long p2), .second, .val (.long p3), .second, .val (.long p4), .second, .val (.int p5), .val (.long p3), .second, .val (.long p4), .second, .val (.int ((XT.ushr p5 (2 : Int32)) &&& (3 : Int32))), .val (.ref b67), .val (.ref b79), .val (.int (1 : Int32)), .val (.int (1 : Int32)), .val (.int (1 : Int32))] []))
            refine own_st (fun _ k => XS.aload X84.here hx rfl (hb hby at_155) rfl rfl k) ?_
            show own_Go p e below s _ _ _ (T84.setTop (mkF m 157 #[.val (.long p1), .second, .val (.long p2), .second, .val (.long p3), .second, .val (.long p4), .second, .val (.int p5), .val (.long p3), .second, .val (.long p4), .second, .val (.int ((XT.ushr p5 (2 : Int32)) &&& (3 : Int32))), .val (.ref b67), .val (.ref b79), .val (.int (1 : Int32)), .val (.int (1 : Int32)), .val (.int (1 : Int32))] [(.ref b67)]))
            refine own_st (fun _ k => XS.aload X84.here hx rfl (hb hby at_157) rfl rfl k) ?_
            show own_Go p e below s _ _ _ (T84.setTop (mkF m 159 #[.val (.long p1), .second, .val (.long p2), .second, .val (.long p3), .second, .val (.long p4), .second, .val (.int p5), .val (.long p3), .second, .val (.long p4), .second, .val (.int ((XT.ushr p5 (2 : Int32)) &&& (3 : Int32))), .val (.ref b67), .val (.ref b79), .val (.int (1 : Int32)), .val (.int (1 : Int32)), .val (.int (1 : Int32))] [(.ref b79), (.ref b67)]))
            have F93 : Exa Z T84.heap b67 "com/example/epoch/epoch/protocol/record/AbortedTransaction" := ((q73.ext E79).keep K84)
            have ne94 : b67 ≠ b79 := Nat.ne_of_lt (Nat.lt_of_lt_of_le (Nat.lt_of_lt_of_le A67.lt K72.1) (Nat.le_of_eq g79.symm))
            have F95 : Fld Z T84.heap b67 "com/example/epoch/epoch/protocol/record/AbortedTransaction" "producerId" "J" (.long p1) := ((q74.ext E79).keep K84 (ninS ne94 nin0))
            have F96 : Fld Z T84.heap b67 "com/example/epoch/epoch/protocol/record/AbortedTransaction" "firstOffset" "J" (.long p2) := ((q75.ext E79).keep K84 (ninS ne94 nin0))
            obtain ⟨cq92, kq92, q92a, q92b, q92c⟩ := isOf hZ rfl F93
            obtain ⟨_, _, ⟨T92, L92, k92, n92⟩, -, X92, ⟨Lc92, hQ92, l92, y92, z92⟩, st92⟩ := X84.virtualBack hx (y := (⟨"com/example/epoch/epoch/protocol/record/AbortedTransaction", "equals", "(Ljava/lang/Object;)Z"⟩ : MethodName)) (z := (⟨"com/example/epoch/epoch/protocol/record/AbortedTransaction", "equals", "(Ljava/lang/Object;)Z"⟩ : MethodName)) hown (mvT hZ (hw _ (List.mem_of_getElem? (i := 13) rfl))) (mvT hZ (hw _ (List.mem_of_getElem? (i := 14) rfl))) (notFace_of_selects (args := #[]) (mvT hZ (hw _ (List.mem_of_getElem? (i := 16) rfl)))) (mvT hZ (hw _ (List.mem_of_getElem? (i := 16) rfl))) (mvT hZ (hw _ (List.mem_of_getElem? (i := 15) rfl))) (by decide) (backOf (W := 0) (own_rm_eqA l Z a0 hw [] b67 b79 p1 p2 p3 p4 T84.heap n0 Zs89 q85 F95 F96 q86 q87) hZ (hw _ (List.mem_of_getElem? (i := 17) rfl)) (hw _ (List.mem_of_getElem? (i := 2) rfl)) (by decide) (by decide)) q92a q92c (g := (mkF m 159 #[.val (.long p1), .second, .val (.long p2), .second, .val (.long p3), .second, .val (.long p4), .second, .val (.int p5), .val (.long p3), .second, .val (.long p4), .second, .val (.int ((XT.ushr p5 (2 : Int32)) &&& (3 : Int32))), .val (.ref b67), .val (.ref b79), .val (.int (1 : Int32)), .val (.int (1 : Int32)), .val (.int (1 : Int32))] [(.ref b79), (.ref b67)])) rfl (by rw [hml]; rfl) (Steps.refl _) (argsL := [(.ref b79)]) (rest := []) (lenOf own_pd3 rfl) rfl (by show 2 * 0 + _ ≤ _; exact Nat.le_of_eq rfl) (hb hby at_159) (fun _ _ => ⟨rfl, rfl, (by decide : 2 + 0 ≤ _), (by decide : 4 + 0 ≤ _)⟩)
            dsimp only [Pt.U, Pt.locs, Pt.cells, Pt.slots] at X92 l92 y92 z92 st92 hQ92
            subst l92 y92 z92
            obtain ⟨N92q, rfl, eh92⟩ := hQ92
            have N97 := Fr.app N88 N92q
            refine own_tr st92 ?_
            show own_Go p e below s _ _ _ (T92.setTop (mkF m 162 #[.val (.long p1), .second, .val (.long p2), .second, .val (.long p3), .second, .val (.long p4), .second, .val (.int p5), .val (.long p3), .second, .val (.long p4), .second, .val (.int ((XT.ushr p5 (2 : Int32)) &&& (3 : Int32))), .val (.ref b67), .val (.ref b79), .val (.int (1 : Int32)), .val (.int (1 : Int32)), .val (.int (1 : Int32))] [(.int (if p1 = p3 then (if p2 = p4 then (1 : Int32) else 0) else 0))]))
            refine own_st (fun _ k => XS.iload X92.here hx rfl (hb hby at_162) rfl k) ?_
            show own_Go p e below s _ _ _ (T92.setTop (mkF m 164 #[.val (.long p1), .second, .val (.long p2), .second, .val (.long p3), .second, .val (.long p4), .second, .val (.int p5), .val (.long p3), .second, .val (.long p4), .second, .val (.int ((XT.ushr p5 (2 : Int32)) &&& (3 : Int32))), .val (.ref b67), .val (.ref b79), .val (.int (1 : Int32)), .val (.int (1 : Int32)), .val (.int (1 : Int32))] [(.int (1 : Int32)), (.int (if p1 = p3 then (if p2 = p4 then (1 : Int32) else 0) else 0))]))
            refine own_st (fun _ k => XS.icmpNo X92.here hx rfl (hb hby at_164) rfl (XT.ii_ne_f (by simp [hc90, hc91])) k) ?_
            show own_Go p e below s _ _ _ (T92.setTop (mkF m 167 #[.val (.long p1), .second, .val (.long p2), .second, .val (.long p3), .second, .val (.long p4), .second, .val (.int p5), .val (.long p3), .second, .val (.long p4), .second, .val (.int ((XT.ushr p5 (2 : Int32)) &&& (3 : Int32))), .val (.ref b67), .val (.ref b79), .val (.int (1 : Int32)), .val (.int (1 : Int32)), .val (.int (1 : Int32))] []))
            refine own_st (fun _ k => XT.iconstV X92.here hx rfl (1 : Int32) (hb hby at_167) (by decide) k) ?_
            show own_Go p e below s _ _ _ (T92.setTop (mkF m 168 #[.val (.long p1), .second, .val (.long p2), .second, .val (.long p3), .second, .val (.long p4), .second, .val (.int p5), .val (.long p3), .second, .val (.long p4), .second, .val (.int ((XT.ushr p5 (2 : Int32)) &&& (3 : Int32))), .val (.ref b67), .val (.ref b79), .val (.int (1 : Int32)), .val (.int (1 : Int32)), .val (.int (1 : Int32))] [(.int (1 : Int32))]))
            refine own_st (fun _ k => XS.goto X92.here hx rfl (pc0 := 168) (pc' := 172) rfl (hb hby at_168) (by decide) (by decide) k) ?_
            show own_Go p e below s _ _ _ (T92.setTop (mkF m 172 #[.val (.long p1), .second, .val (.long p2), .second, .val (.long p3), .second, .val (.long p4), .second, .val (.int p5), .val (.long p3), .second, .val (.long p4), .second, .val (.int ((XT.ushr p5 (2 : Int32)) &&& (3 : Int32))), .val (.ref b67), .val (.ref b79), .val (.int (1 : Int32)), .val (.int (1 : Int32)), .val (.int (1 : Int32))] [(.int (1 : Int32))]))
            refine own_retN X92 hx hlk Bd.returns (t := .boolean) (z' := (1 : Int32)) (by simp) (by decide) (hb hby at_172) (by decide) (by decide) ?_
            rw [eh92]
            exact ⟨N97, rfl⟩
          · refine own_st (fun _ k => XS.ifYes X84.here hx rfl (pc0 := 85) (pc' := 92) rfl (hb hby at_85) rfl (XT.ll_ne_t hc91) (by decide) (by decide) k) ?_
            show own_Go p e below s _ _ _ (T84.setTop (mkF m 92 #[.val (.long p1), .second, .val (.long p2), .second, .val (.long p3), .second, .val (.long p4), .second, .val (.int p5), .val (.long p3), .second, .val (.long p4), .second, .val (.int ((XT.ushr p5 (2 : Int32)) &&& (3 : Int32))), .val (.ref b67), .val (.ref b79), .unset, .val (.int (1 : Int32)), .unset] []))
            refine own_st (fun _ k => XT.iconstV X84.here hx rfl (0 : Int32) (hb hby at_92) (by decide) k) ?_
            show own_Go p e below s _ _ _ (T84.setTop (mkF m 93 #[.val (.long p1), .second, .val (.long p2), .second, .val (.long p3), .second, .val (.long p4), .second, .val (.int p5), .val (.long p3), .second, .val (.long p4), .second, .val (.int ((XT.ushr p5 (2 : Int32)) &&& (3 : Int32))), .val (.ref b67), .val (.ref b79), .unset, .val (.int (1 : Int32)), .unset] [(.int (0 : Int32))]))
            refine own_st (fun _ k => XS.istore X84.here hx rfl (hb hby at_93) rfl (l' := #[.val (.long p1), .second, .val (.long p2), .second, .val (.long p3), .second, .val (.long p4), .second, .val (.int p5), .val (.long p3), .second, .val (.long p4), .second, .val (.int ((XT.ushr p5 (2 : Int32)) &&& (3 : Int32))), .val (.ref b67), .val (.ref b79), .unset, .val (.int (1 : Int32)), .val (.int (0 : Int32))]) rfl k) ?_
            show own_Go p e below s _ _ _ (T84.setTop (mkF m 95 #[.val (.long p1), .second, .val (.long p2), .second, .val (.long p3), .second, .val (.long p4), .second, .val (.int p5), .val (.long p3), .second, .val (.long p4), .second, .val (.int ((XT.ushr p5 (2 : Int32)) &&& (3 : Int32))), .val (.ref b67), .val (.ref b79), .unset, .val (.int (1 : Int32)), .val (.int (0 : Int32))] []))
            refine own_st (fun _ k => XS.iload X84.here hx rfl (hb hby at_95) rfl k) ?_
            show own_Go p e below s _ _ _ (T84.setTop (mkF m 97 #[.val (.long p1), .second, .val (.long p2), .second, .val (.long p3), .second, .val (.long p4), .second, .val (.int p5), .val (.long p3), .second, .val (.long p4), .second, .val (.int ((XT.ushr p5 (2 : Int32)) &&& (3 : Int32))), .val (.ref b67), .val (.ref b79), .unset, .val (.int (1 : Int32)), .val (.int (0 : Int32))] [(.int (1 : Int32))]))
            refine own_st (fun _ k => XS.ifNo X84.here hx rfl (hb hby at_97) rfl (XT.i0_eq_f (by decide)) k) ?_
            show own_Go p e below s _ _ _ (T84.setTop (mkF m 100 #[.val (.long p1), .second, .val (.long p2), .second, .val (.long p3), .second, .val (.long p4), .second, .val (.int p5), .val (.long p3), .second, .val (.long p4), .second, .val (.int ((XT.ushr p5 (2 : Int32)) &&& (3 : Int32))), .val (.ref b67), .val (.ref b79), .unset, .val (.int (1 : Int32)), .val (.int (0 : Int32))] []))
            refine own_st (fun _ k => XS.iload X84.here hx rfl (hb hby at_100) rfl k) ?_
            show own_Go p e below s _ _ _ (T84.setTop (mkF m 102 #[.val (.long p1), .second, .val (.long p2), .second, .val (.long p3), .second, .val (.long p4), .second, .val (.int p5), .val (.long p3), .second, .val (.long p4), .second, .val (.int ((XT.ushr p5 (2 : Int32)) &&& (3 : Int32))), .val (.ref b67), .val (.ref b79), .unset, .val (.int (1 : Int32)), .val (.int (0 : Int32))] [(.int (0 : Int32))]))
            refine own_st (fun _ k => XS.ifYes X84.here hx rfl (pc0 := 102) (pc' := 109) rfl (hb hby at_102) rfl (XT.i0_eq_t (by decide)) (by decide) (by decide) k) ?_
            show own_Go p e below s _ _ _ (T84.setTop (mkF m 109 #[.val (.long p1), .second, .val (.long p2), .second, .val (.long p3), .second, .val (.long p4), .second, .val (.int p5), .val (.long p3), .second, .val (.long p4), .second, .val (.int ((XT.ushr p5 (2 : Int32)) &&& (3 : Int32))), .val (.ref b67), .val (.ref b79), .unset, .val (.int (1 : Int32)), .val (.int (0 : Int32))] []))
            refine own_st (fun _ k => XT.iconstV X84.here hx rfl (0 : Int32) (hb hby at_109) (by decide) k) ?_
            show own_Go p e below s _ _ _ (T84.setTop (mkF m 110 #[.val (.long p1), .second, .val (.long p2), .second, .val (.long p3), .second, .val (.long p4), .second, .val (.int p5), .val (.long p3), .second, .val (.long p4), .second, .val (.int ((XT.ushr p5 (2 : Int32)) &&& (3 : Int32))), .val (.ref b67), .val (.ref b79), .unset, .val (.int (1 : Int32)), .val (.int (0 : Int32))] [(.int (0 : Int32))]))
            refine own_st (fun _ k => XS.istore X84.here hx rfl (hb hby at_110) rfl (l' := #[.val (.long p1), .second, .val (.long p2), .second, .val (.long p3), .second, .val (.long p4), .second, .val (.int p5), .val (.long p3), .second, .val (.long p4), .second, .val (.int ((XT.ushr p5 (2 : Int32)) &&& (3 : Int32))), .val (.ref b67), .val (.ref b79), .val (.int (0 : Int32)), .val (.int (1 : Int32)), .val (.int (0 : Int32))]) rfl k) ?_
            show own_Go p e below s _ _ _ (T84.setTop (mkF m 112 #[.val (.long p1), .second, .val (.long p2), .second, .val (.long p3), .second, .val (.long p4), .second, .val (.int p5), .val (.long p3), .second, .val (.long p4), .second, .val (.int ((XT.ushr p5 (2 : Int32)) &&& (3 : Int32))), .val (.ref b67), .val (.ref b79), .val (.int (0 : Int32)), .val (.int (1 : Int32)), .val (.int (0 : Int32))] []))
            refine own_st (fun _ k => XS.goto X84.here hx rfl (pc0 := 112) (pc' := 155) rfl (hb hby at_112) (by decide) (by decide) k) ?_
            show own_Go p e below s _ _ _ (T84.setTop (mkF m 155 #[.val (.long p1), .second, .val (.long p2), .second, .val (.long p3), .second, .val (.long p4), .second, .val (.int p5), .val (.long p3), .second, .val (.long p4), .second, .val (.int ((XT.ushr p5 (2 : Int32)) &&& (3 : Int32))), .val (.ref b67), .val (.ref b79), .val (.int (0 : Int32)), .val (.int (1 : Int32)), .val (.int (0 : Int32))] []))
            refine own_st (fun _ k => XS.aload X84.here hx rfl (hb hby at_155) rfl rfl k) ?_
            show own_Go p e below s _ _ _ (T84.setTop (mkF m 157 #[.val (.long p1), .second, .val (.long p2), .second, .val (.long p3), .second, .val (.long p4), .second, .val (.int p5), .val (.long p3), .second, .val (.long p4), .second, .val (.int ((XT.ushr p5 (2 : Int32)) &&& (3 : Int32))), .val (.ref b67), .val (.ref b79), .val (.int (0 : Int32)), .val (.int (1 : Int32)), .val (.int (0 : Int32))] [(.ref b67)]))
            refine own_st (fun _ k => XS.aload X84.here hx rfl (hb hby at_157) rfl rfl k) ?_
            show own_Go p e below s _ _ _ (T84.setTop (mkF m 159 #[.val (.long p1), .second, .val (.long p2), .second, .val (.long p3), .second, .val (.long p4), .second, .val (.int p5), .val (.long p3), .second, .val (.long p4), .second, .val (.int ((XT.ushr p5 (2 : Int32)) &&& (3 : Int32))), .val (.ref b67), .val (.ref b79), .val (.int (0 : Int32)), .val (.int (1 : Int32)), .val (.int (0 : Int32))] [(.ref b79), (.ref b67)]))
            have F99 : Exa Z T84.heap b67 "com/example/epoch/epoch/protocol/record/AbortedTransaction" := ((q73.ext E79).keep K84)
            have ne100 : b67 ≠ b79 := Nat.ne_of_lt (Nat.lt_of_lt_of_le (Nat.lt_of_lt_of_le A67.lt K72.1) (Nat.le_of_eq g79.symm))
            have F101 : Fld Z T84.heap b67 "com/example/epoch/epoch/protocol/record/AbortedTransaction" "producerId" "J" (.long p1) := ((q74.ext E79).keep K84 (ninS ne100 nin0))
            have F102 : Fld Z T84.heap b67 "com/example/epoch/epoch/protocol/record/AbortedTransaction" "firstOffset" "J" (.long p2) := ((q75.ext E79).keep K84 (ninS ne100 nin0))
            obtain ⟨cq98, kq98, q98a, q98b, q98c⟩ := isOf hZ rfl F99
            obtain ⟨_, _, ⟨T98, L98, k98, n98⟩, -, X98, ⟨Lc98, hQ98, l98, y98, z98⟩, st98⟩ := X84.virtualBack hx (y := (⟨"com/example/epoch/epoch/protocol/record/AbortedTransaction", "equals", "(Ljava/lang/Object;)Z"⟩ : MethodName)) (z := (⟨"com/example/epoch/epoch/protocol/record/AbortedTransaction", "equals", "(Ljava/lang/Object;)Z"⟩ : MethodName)) hown (mvT hZ (hw _ (List.mem_of_getElem? (i := 13) rfl))) (mvT hZ (hw _ (List.mem_of_getElem? (i := 14) rfl))) (notFace_of_selects (args := #[]) (mvT hZ (hw _ (List.mem_of_getElem? (i := 16) rfl)))) (mvT hZ (hw _ (List.mem_of_getElem? (i := 16) rfl))) (mvT hZ (hw _ (List.mem_of_getElem? (i := 15) rfl))) (by decide) (backOf (W := 0) (own_rm_eqA l Z a0 hw [] b67 b79 p1 p2 p3 p4 T84.heap n0 Zs89 q85 F101 F102 q86 q87) hZ (hw _ (List.mem_of_getElem? (i := 17) rfl)) (hw _ (List.mem_of_getElem? (i := 2) rfl)) (by decide) (by decide)) q98a q98c (g := (mkF m 159 #[.val (.long p1), .second, .val (.long p2), .second, .val (.long p3), .second, .val (.long p4), .second, .val (.int p5), .val (.long p3), .second, .val (.long p4), .second, .val (.int ((XT.ushr p5 (2 : Int32)) &&& (3 : Int32))), .val (.ref b67), .val (.ref b79), .val (.int (0 : Int32)), .val (.int (1 : Int32)), .val (.int (0 : Int32))] [(.ref b79), (.ref b67)])) rfl (by rw [hml]; rfl) (Steps.refl _) (argsL := [(.ref b79)]) (rest := []) (lenOf own_pd3 rfl) rfl (by show 2 * 0 + _ ≤ _; exact Nat.le_of_eq rfl) (hb hby at_159) (fun _ _ => ⟨rfl, rfl, (by decide : 2 + 0 ≤ _), (by decide : 4 + 0 ≤ _)⟩)
            dsimp only [Pt.U, Pt.locs, Pt.cells, Pt.slots] at X98 l98 y98 z98 st98 hQ98
            subst l98 y98 z98
            obtain ⟨N98q, rfl, eh98⟩ := hQ98
            have N103 := Fr.app N88 N98q
            refine own_tr st98 ?_
            show own_Go p e below s _ _ _ (T98.setTop (mkF m 162 #[.val (.long p1), .second, .val (.long p2), .second, .val (.long p3), .second, .val (.long p4), .second, .val (.int p5), .val (.long p3), .second, .val (.long p4), .second, .val (.int ((XT.ushr p5 (2 : Int32)) &&& (3 : Int32))), .val (.ref b67), .val (.ref b79), .val (.int (0 : Int32)), .val (.int (1 : Int32)), .val (.int (0 : Int32))] [(.int (if p1 = p3 then (if p2 = p4 then (1 : Int32) else 0) else 0))]))
            refine own_st (fun _ k => XS.iload X98.here hx rfl (hb hby at_162) rfl k) ?_
            show own_Go p e below s _ _ _ (T98.setTop (mkF m 164 #[.val (.long p1), .second, .val (.long p2), .second, .val (.long p3), .second, .val (.long p4), .second, .val (.int p5), .val (.long p3), .second, .val (.long p4), .second, .val (.int ((XT.ushr p5 (2 : Int32)) &&& (3 : Int32))), .val (.ref b67), .val (.ref b79), .val (.int (0 : Int32)), .val (.int (1 : Int32)), .val (.int (0 : Int32))] [(.int (0 : Int32)), (.int (if p1 = p3 then (if p2 = p4 then (1 : Int32) else 0) else 0))]))
            refine own_st (fun _ k => XS.icmpNo X98.here hx rfl (hb hby at_164) rfl (XT.ii_ne_f (by simp [hc90, hc91])) k) ?_
            show own_Go p e below s _ _ _ (T98.setTop (mkF m 167 #[.val (.long p1), .second, .val (.long p2), .second, .val (.long p3), .second, .val (.long p4), .second, .val (.int p5), .val (.long p3), .second, .val (.long p4), .second, .val (.int ((XT.ushr p5 (2 : Int32)) &&& (3 : Int32))), .val (.ref b67), .val (.ref b79), .val (.int (0 : Int32)), .val (.int (1 : Int32)), .val (.int (0 : Int32))] []))
            refine own_st (fun _ k => XT.iconstV X98.here hx rfl (1 : Int32) (hb hby at_167) (by decide) k) ?_
            show own_Go p e below s _ _ _ (T98.setTop (mkF m 168 #[.val (.long p1), .second, .val (.long p2), .second, .val (.long p3), .second, .val (.long p4), .second, .val (.int p5), .val (.long p3), .second, .val (.long p4), .second, .val (.int ((XT.ushr p5 (2 : Int32)) &&& (3 : Int32))), .val (.ref b67), .val (.ref b79), .val (.int (0 : Int32)), .val (.int (1 : Int32)), .val (.int (0 : Int32))] [(.int (1 : Int32))]))
            refine own_st (fun _ k => XS.goto X98.here hx rfl (pc0 := 168) (pc' := 172) rfl (hb hby at_168) (by decide) (by decide) k) ?_
            show own_Go p e below s _ _ _ (T98.setTop (mkF m 172 #[.val (.long p1), .second, .val (.long p2), .second, .val (.long p3), .second, .val (.long p4), .second, .val (.int p5), .val (.long p3), .second, .val (.long p4), .second, .val (.int ((XT.ushr p5 (2 : Int32)) &&& (3 : Int32))), .val (.ref b67), .val (.ref b79), .val (.int (0 : Int32)), .val (.int (1 : Int32)), .val (.int (0 : Int32))] [(.int (1 : Int32))]))
            refine own_retN X98 hx hlk Bd.returns (t := .boolean) (z' := (1 : Int32)) (by simp) (by decide) (hb hby at_172) (by decide) (by decide) ?_
            rw [eh98]
            exact ⟨N103, rfl⟩
        · refine own_st (fun _ k => XS.ifYes X84.here hx rfl (pc0 := 71) (pc' := 78) rfl (hb hby at_71) rfl (XT.ll_ne_t hc90) (by decide) (by decide) k) ?_
          show own_Go p e below s _ _ _ (T84.setTop (mkF m 78 #[.val (.long p1), .second, .val (.long p2), .second, .val (.long p3), .second, .val (.long p4), .second, .val (.int p5), .val (.long p3), .second, .val (.long p4), .second, .val (.int ((XT.ushr p5 (2 : Int32)) &&& (3 : Int32))), .val (.ref b67), .val (.ref b79), .unset, .unset, .unset] []))
          refine own_st (fun _ k => XT.iconstV X84.here hx rfl (0 : Int32) (hb hby at_78) (by decide) k) ?_
          show own_Go p e below s _ _ _ (T84.setTop (mkF m 79 #[.val (.long p1), .second, .val (.long p2), .second, .val (.long p3), .second, .val (.long p4), .second, .val (.int p5), .val (.long p3), .second, .val (.long p4), .second, .val (.int ((XT.ushr p5 (2 : Int32)) &&& (3 : Int32))), .val (.ref b67), .val (.ref b79), .unset, .unset, .unset] [(.int (0 : Int32))]))
          refine own_st (fun _ k => XS.istore X84.here hx rfl (hb hby at_79) rfl (l' := #[.val (.long p1), .second, .val (.long p2), .second, .val (.long p3), .second, .val (.long p4), .second, .val (.int p5), .val (.long p3), .second, .val (.long p4), .second, .val (.int ((XT.ushr p5 (2 : Int32)) &&& (3 : Int32))), .val (.ref b67), .val (.ref b79), .unset, .val (.int (0 : Int32)), .unset]) rfl k) ?_
          show own_Go p e below s _ _ _ (T84.setTop (mkF m 81 #[.val (.long p1), .second, .val (.long p2), .second, .val (.long p3), .second, .val (.long p4), .second, .val (.int p5), .val (.long p3), .second, .val (.long p4), .second, .val (.int ((XT.ushr p5 (2 : Int32)) &&& (3 : Int32))), .val (.ref b67), .val (.ref b79), .unset, .val (.int (0 : Int32)), .unset] []))
          refine own_st (fun _ k => XT.lloadN X84.here hx rfl (hb hby at_81) rfl k) ?_
          show own_Go p e below s _ _ _ (T84.setTop (mkF m 82 #[.val (.long p1), .second, .val (.long p2), .second, .val (.long p3), .second, .val (.long p4), .second, .val (.int p5), .val (.long p3), .second, .val (.long p4), .second, .val (.int ((XT.ushr p5 (2 : Int32)) &&& (3 : Int32))), .val (.ref b67), .val (.ref b79), .unset, .val (.int (0 : Int32)), .unset] [(.long p2)]))
          refine own_st (fun _ k => XT.lload X84.here hx rfl (hb hby at_82) rfl k) ?_
          show own_Go p e below s _ _ _ (T84.setTop (mkF m 84 #[.val (.long p1), .second, .val (.long p2), .second, .val (.long p3), .second, .val (.long p4), .second, .val (.int p5), .val (.long p3), .second, .val (.long p4), .second, .val (.int ((XT.ushr p5 (2 : Int32)) &&& (3 : Int32))), .val (.ref b67), .val (.ref b79), .unset, .val (.int (0 : Int32)), .unset] [(.long p4), (.long p2)]))
          refine own_st (fun _ k => XT.lcmp X84.here hx rfl (hb hby at_84) rfl k) ?_
          show own_Go p e below s _ _ _ (T84.setTop (mkF m 85 #[.val (.long p1), .second, .val (.long p2), .second, .val (.long p3), .second, .val (.long p4), .second, .val (.int p5), .val (.long p3), .second, .val (.long p4), .second, .val (.int ((XT.ushr p5 (2 : Int32)) &&& (3 : Int32))), .val (.ref b67), .val (.ref b79), .unset, .val (.int (0 : Int32)), .unset] [(.int (XT.cmpL p2 p4))]))
          by_cases hc104 : p2 = p4
          · refine own_st (fun _ k => XS.ifNo X84.here hx rfl (hb hby at_85) rfl (XT.ll_ne_f hc104) k) ?_
            show own_Go p e below s _ _ _ (T84.setTop (mkF m 88 #[.val (.long p1), .second, .val (.long p2), .second, .val (.long p3), .second, .val (.long p4), .second, .val (.int p5), .val (.long p3), .second, .val (.long p4), .second, .val (.int ((XT.ushr p5 (2 : Int32)) &&& (3 : Int32))), .val (.ref b67), .val (.ref b79), .unset, .val (.int (0 : Int32)), .unset] []))
            refine own_st (fun _ k => XT.iconstV X84.here hx rfl (1 : Int32) (hb hby at_88) (by decide) k) ?_
            show own_Go p e below s _ _ _ (T84.setTop (mkF m 89 #[.val (.long p1), .second, .val (.long p2), .second, .val (.long p3), .second, .val (.long p4), .second, .val (.int p5), .val (.long p3), .second, .val (.long p4), .second, .val (.int ((XT.ushr p5 (2 : Int32)) &&& (3 : Int32))), .val (.ref b67), .val (.ref b79), .unset, .val (.int (0 : Int32)), .unset] [(.int (1 : Int32))]))
            refine own_st (fun _ k => XS.goto X84.here hx rfl (pc0 := 89) (pc' := 93) rfl (hb hby at_89) (by decide) (by decide) k) ?_
            show own_Go p e below s _ _ _ (T84.setTop (mkF m 93 #[.val (.long p1), .second, .val (.long p2), .second, .val (.long p3), .second, .val (.long p4), .second, .val (.int p5), .val (.long p3), .second, .val (.long p4), .second, .val (.int ((XT.ushr p5 (2 : Int32)) &&& (3 : Int32))), .val (.ref b67), .val (.ref b79), .unset, .val (.int (0 : Int32)), .unset] [(.int (1 : Int32))]))
            refine own_st (fun _ k => XS.istore X84.here hx rfl (hb hby at_93) rfl (l' := #[.val (.long p1), .second, .val (.long p2), .second, .val (.long p3), .second, .val (.long p4), .second, .val (.int p5), .val (.long p3), .second, .val (.long p4), .second, .val (.int ((XT.ushr p5 (2 : Int32)) &&& (3 : Int32))), .val (.ref b67), .val (.ref b79), .unset, .val (.int (0 : Int32)), .val (.int (1 : Int32))]) rfl k) ?_
            show own_Go p e below s _ _ _ (T84.setTop (mkF m 95 #[.val (.long p1), .second, .val (.long p2), .second, .val (.long p3), .second, .val (.long p4), .second, .val (.int p5), .val (.long p3), .second, .val (.long p4), .second, .val (.int ((XT.ushr p5 (2 : Int32)) &&& (3 : Int32))), .val (.ref b67), .val (.ref b79), .unset, .val (.int (0 : Int32)), .val (.int (1 : Int32))] []))
            refine own_st (fun _ k => XS.iload X84.here hx rfl (hb hby at_95) rfl k) ?_
            show own_Go p e below s _ _ _ (T84.setTop (mkF m 97 #[.val (.long p1), .second, .val (.long p2), .second, .val (.long p3), .second, .val (.long p4), .second, .val (.int p5), .val (.long p3), .second, .val (.long p4), .second, .val (.int ((XT.ushr p5 (2 : Int32)) &&& (3 : Int32))), .val (.ref b67), .val (.ref b79), .unset, .val (.int (0 : Int32)), .val (.int (1 : Int32))] [(.int (0 : Int32))]))
            refine own_st (fun _ k => XS.ifYes X84.here hx rfl (pc0 := 97) (pc' := 109) rfl (hb hby at_97) rfl (XT.i0_eq_t (by decide)) (by decide) (by decide) k) ?_
            show own_Go p e below s _ _ _ (T84.setTop (mkF m 109 #[.val (.long p1), .second, .val (.long p2), .second, .val (.long p3), .second, .val (.long p4), .second, .val (.int p5), .val (.long p3), .second, .val (.long p4), .second, .val (.int ((XT.ushr p5 (2 : Int32)) &&& (3 : Int32))), .val (.ref b67), .val (.ref b79), .unset, .val (.int (0 : Int32)), .val (.int (1 : Int32))] []))
            refine own_st (fun _ k => XT.iconstV X84.here hx rfl (0 : Int32) (hb hby at_109) (by decide) k) ?_
            show own_Go p e below s _ _ _ (T84.setTop (mkF m 110 #[.val (.long p1), .second, .val (.long p2), .second, .val (.long p3), .second, .val (.long p4), .second, .val (.int p5), .val (.long p3), .second, .val (.long p4), .second, .val (.int ((XT.ushr p5 (2 : Int32)) &&& (3 : Int32))), .val (.ref b67), .val (.ref b79), .unset, .val (.int (0 : Int32)), .val (.int (1 : Int32))] [(.int (0 : Int32))]))
            refine own_st (fun _ k => XS.istore X84.here hx rfl (hb hby at_110) rfl (l' := #[.val (.long p1), .second, .val (.long p2), .second, .val (.long p3), .second, .val (.long p4), .second, .val (.int p5), .val (.long p3), .second, .val (.long p4), .second, .val (.int ((XT.ushr p5 (2 : Int32)) &&& (3 : Int32))), .val (.ref b67), .val (.ref b79), .val (.int (0 : Int32)), .val (.int (0 : Int32)), .val (.int (1 : Int32))]) rfl k) ?_
            show own_Go p e below s _ _ _ (T84.setTop (mkF m 112 #[.val (.long p1), .second, .val (.long p2), .second, .val (.long p3), .second, .val (.long p4), .second, .val (.int p5), .val (.long p3), .second, .val (.long p4), .second, .val (.int ((XT.ushr p5 (2 : Int32)) &&& (3 : Int32))), .val (.ref b67), .val (.ref b79), .val (.int (0 : Int32)), .val (.int (0 : Int32)), .val (.int (1 : Int32))] []))
            refine own_st (fun _ k => XS.goto X84.here hx rfl (pc0 := 112) (pc' := 155) rfl (hb hby at_112) (by decide) (by decide) k) ?_
            show own_Go p e below s _ _ _ (T84.setTop (mkF m 155 #[.val (.long p1), .second, .val (.long p2), .second, .val (.long p3), .second, .val (.long p4), .second, .val (.int p5), .val (.long p3), .second, .val (.long p4), .second, .val (.int ((XT.ushr p5 (2 : Int32)) &&& (3 : Int32))), .val (.ref b67), .val (.ref b79), .val (.int (0 : Int32)), .val (.int (0 : Int32)), .val (.int (1 : Int32))] []))
            refine own_st (fun _ k => XS.aload X84.here hx rfl (hb hby at_155) rfl rfl k) ?_
            show own_Go p e below s _ _ _ (T84.setTop (mkF m 157 #[.val (.long p1), .second, .val (.long p2), .second, .val (.long p3), .second, .val (.long p4), .second, .val (.int p5), .val (.long p3), .second, .val (.long p4), .second, .val (.int ((XT.ushr p5 (2 : Int32)) &&& (3 : Int32))), .val (.ref b67), .val (.ref b79), .val (.int (0 : Int32)), .val (.int (0 : Int32)), .val (.int (1 : Int32))] [(.ref b67)]))
            refine own_st (fun _ k => XS.aload X84.here hx rfl (hb hby at_157) rfl rfl k) ?_
            show own_Go p e below s _ _ _ (T84.setTop (mkF m 159 #[.val (.long p1), .second, .val (.long p2), .second, .val (.long p3), .second, .val (.long p4), .second, .val (.int p5), .val (.long p3), .second, .val (.long p4), .second, .val (.int ((XT.ushr p5 (2 : Int32)) &&& (3 : Int32))), .val (.ref b67), .val (.ref b79), .val (.int (0 : Int32)), .val (.int (0 : Int32)), .val (.int (1 : Int32))] [(.ref b79), (.ref b67)]))
            have F106 : Exa Z T84.heap b67 "com/example/epoch/epoch/protocol/record/AbortedTransaction" := ((q73.ext E79).keep K84)
            have ne107 : b67 ≠ b79 := Nat.ne_of_lt (Nat.lt_of_lt_of_le (Nat.lt_of_lt_of_le A67.lt K72.1) (Nat.le_of_eq g79.symm))
            have F108 : Fld Z T84.heap b67 "com/example/epoch/epoch/protocol/record/AbortedTransaction" "producerId" "J" (.long p1) := ((q74.ext E79).keep K84 (ninS ne107 nin0))
            have F109 : Fld Z T84.heap b67 "com/example/epoch/epoch/protocol/record/AbortedTransaction" "firstOffset" "J" (.long p2) := ((q75.ext E79).keep K84 (ninS ne107 nin0))
            obtain ⟨cq105, kq105, q105a, q105b, q105c⟩ := isOf hZ rfl F106
            obtain ⟨_, _, ⟨T105, L105, k105, n105⟩, -, X105, ⟨Lc105, hQ105, l105, y105, z105⟩, st105⟩ := X84.virtualBack hx (y := (⟨"com/example/epoch/epoch/protocol/record/AbortedTransaction", "equals", "(Ljava/lang/Object;)Z"⟩ : MethodName)) (z := (⟨"com/example/epoch/epoch/protocol/record/AbortedTransaction", "equals", "(Ljava/lang/Object;)Z"⟩ : MethodName)) hown (mvT hZ (hw _ (List.mem_of_getElem? (i := 13) rfl))) (mvT hZ (hw _ (List.mem_of_getElem? (i := 14) rfl))) (notFace_of_selects (args := #[]) (mvT hZ (hw _ (List.mem_of_getElem? (i := 16) rfl)))) (mvT hZ (hw _ (List.mem_of_getElem? (i := 16) rfl))) (mvT hZ (hw _ (List.mem_of_getElem? (i := 15) rfl))) (by decide) (backOf (W := 0) (own_rm_eqA l Z a0 hw [] b67 b79 p1 p2 p3 p4 T84.heap n0 Zs89 q85 F108 F109 q86 q87) hZ (hw _ (List.mem_of_getElem? (i := 17) rfl)) (hw _ (List.mem_of_getElem? (i := 2) rfl)) (by decide) (by decide)) q105a q105c (g := (mkF m 159 #[.val (.long p1), .second, .val (.long p2), .second, .val (.long p3), .second, .val (.long p4), .second, .val (.int p5), .val (.long p3), .second, .val (.long p4), .second, .val (.int ((XT.ushr p5 (2 : Int32)) &&& (3 : Int32))), .val (.ref b67), .val (.ref b79), .val (.int (0 : Int32)), .val (.int (0 : Int32)), .val (.int (1 : Int32))] [(.ref b79), (.ref b67)])) rfl (by rw [hml]; rfl) (Steps.refl _) (argsL := [(.ref b79)]) (rest := []) (lenOf own_pd3 rfl) rfl (by show 2 * 0 + _ ≤ _; exact Nat.le_of_eq rfl) (hb hby at_159) (fun _ _ => ⟨rfl, rfl, (by decide : 2 + 0 ≤ _), (by decide : 4 + 0 ≤ _)⟩)
            dsimp only [Pt.U, Pt.locs, Pt.cells, Pt.slots] at X105 l105 y105 z105 st105 hQ105
            subst l105 y105 z105
            obtain ⟨N105q, rfl, eh105⟩ := hQ105
            have N110 := Fr.app N88 N105q
            refine own_tr st105 ?_
            show own_Go p e below s _ _ _ (T105.setTop (mkF m 162 #[.val (.long p1), .second, .val (.long p2), .second, .val (.long p3), .second, .val (.long p4), .second, .val (.int p5), .val (.long p3), .second, .val (.long p4), .second, .val (.int ((XT.ushr p5 (2 : Int32)) &&& (3 : Int32))), .val (.ref b67), .val (.ref b79), .val (.int (0 : Int32)), .val (.int (0 : Int32)), .val (.int (1 : Int32))] [(.int (if p1 = p3 then (if p2 = p4 then (1 : Int32) else 0) else 0))]))
            refine own_st (fun _ k => XS.iload X105.here hx rfl (hb hby at_162) rfl k) ?_
            show own_Go p e below s _ _ _ (T105.setTop (mkF m 164 #[.val (.long p1), .second, .val (.long p2), .second, .val (.long p3), .second, .val (.long p4), .second, .val (.int p5), .val (.long p3), .second, .val (.long p4), .second, .val (.int ((XT.ushr p5 (2 : Int32)) &&& (3 : Int32))), .val (.ref b67), .val (.ref b79), .val (.int (0 : Int32)), .val (.int (0 : Int32)), .val (.int (1 : Int32))] [(.int (0 : Int32)), (.int (if p1 = p3 then (if p2 = p4 then (1 : Int32) else 0) else 0))]))
            refine own_st (fun _ k => XS.icmpNo X105.here hx rfl (hb hby at_164) rfl (XT.ii_ne_f (by simp [hc90, hc104])) k) ?_
            show own_Go p e below s _ _ _ (T105.setTop (mkF m 167 #[.val (.long p1), .second, .val (.long p2), .second, .val (.long p3), .second, .val (.long p4), .second, .val (.int p5), .val (.long p3), .second, .val (.long p4), .second, .val (.int ((XT.ushr p5 (2 : Int32)) &&& (3 : Int32))), .val (.ref b67), .val (.ref b79), .val (.int (0 : Int32)), .val (.int (0 : Int32)), .val (.int (1 : Int32))] []))
            refine own_st (fun _ k => XT.iconstV X105.here hx rfl (1 : Int32) (hb hby at_167) (by decide) k) ?_
            show own_Go p e below s _ _ _ (T105.setTop (mkF m 168 #[.val (.long p1), .second, .val (.long p2), .second, .val (.long p3), .second, .val (.long p4), .second, .val (.int p5), .val (.long p3), .second, .val (.long p4), .second, .val (.int ((XT.ushr p5 (2 : Int32)) &&& (3 : Int32))), .val (.ref b67), .val (.ref b79), .val (.int (0 : Int32)), .val (.int (0 : Int32)), .val (.int (1 : Int32))] [(.int (1 : Int32))]))
            refine own_st (fun _ k => XS.goto X105.here hx rfl (pc0 := 168) (pc' := 172) rfl (hb hby at_168) (by decide) (by decide) k) ?_
            show own_Go p e below s _ _ _ (T105.setTop (mkF m 172 #[.val (.long p1), .second, .val (.long p2), .second, .val (.long p3), .second, .val (.long p4), .second, .val (.int p5), .val (.long p3), .second, .val (.long p4), .second, .val (.int ((XT.ushr p5 (2 : Int32)) &&& (3 : Int32))), .val (.ref b67), .val (.ref b79), .val (.int (0 : Int32)), .val (.int (0 : Int32)), .val (.int (1 : Int32))] [(.int (1 : Int32))]))
            refine own_retN X105 hx hlk Bd.returns (t := .boolean) (z' := (1 : Int32)) (by simp) (by decide) (hb hby at_172) (by decide) (by decide) ?_
            rw [eh105]
            exact ⟨N110, rfl⟩
          · refine own_st (fun _ k => XS.ifYes X84.here hx rfl (pc0 := 85) (pc' := 92) rfl (hb hby at_85) rfl (XT.ll_ne_t hc104) (by decide) (by decide) k) ?_
            show own_Go p e below s _ _ _ (T84.setTop (mkF m 92 #[.val (.long p1), .second, .val (.long p2), .second, .val (.long p3), .second, .val (.long p4), .second, .val (.int p5), .val (.long p3), .second, .val (.long p4), .second, .val (.int ((XT.ushr p5 (2 : Int32)) &&& (3 : Int32))), .val (.ref b67), .val (.ref b79), .unset, .val (.int (0 : Int32)), .unset] []))
            refine own_st (fun _ k => XT.iconstV X84.here hx rfl (0 : Int32) (hb hby at_92) (by decide) k) ?_
            show own_Go p e below s _ _ _ (T84.setTop (mkF m 93 #[.val (.long p1), .second, .val (.long p2), .second, .val (.long p3), .second, .val (.long p4), .second, .val (.int p5), .val (.long p3), .second, .val (.long p4), .second, .val (.int ((XT.ushr p5 (2 : Int32)) &&& (3 : Int32))), .val (.ref b67), .val (.ref b79), .unset, .val (.int (0 : Int32)), .unset] [(.int (0 : Int32))]))
            refine own_st (fun _ k => XS.istore X84.here hx rfl (hb hby at_93) rfl (l' := #[.val (.long p1), .second, .val (.long p2), .second, .val (.long p3), .second, .val (.long p4), .second, .val (.int p5), .val (.long p3), .second, .val (.long p4), .second, .val (.int ((XT.ushr p5 (2 : Int32)) &&& (3 : Int32))), .val (.ref b67), .val (.ref b79), .unset, .val (.int (0 : Int32)), .val (.int (0 : Int32))]) rfl k) ?_
            show own_Go p e below s _ _ _ (T84.setTop (mkF m 95 #[.val (.long p1), .second, .val (.long p2), .second, .val (.long p3), .second, .val (.long p4), .second, .val (.int p5), .val (.long p3), .second, .val (.long p4), .second, .val (.int ((XT.ushr p5 (2 : Int32)) &&& (3 : Int32))), .val (.ref b67), .val (.ref b79), .unset, .val (.int (0 : Int32)), .val (.int (0 : Int32))] []))
            refine own_st (fun _ k => XS.iload X84.here hx rfl (hb hby at_95) rfl k) ?_
            show own_Go p e below s _ _ _ (T84.setTop (mkF m 97 #[.val (.long p1), .second, .val (.long p2), .second, .val (.long p3), .second, .val (.long p4), .second, .val (.int p5), .val (.long p3), .second, .val (.long p4), .second, .val (.int ((XT.ushr p5 (2 : Int32)) &&& (3 : Int32))), .val (.ref b67), .val (.ref b79), .unset, .val (.int (0 : Int32)), .val (.int (0 : Int32))] [(.int (0 : Int32))]))
            refine own_st (fun _ k => XS.ifYes X84.here hx rfl (pc0 := 97) (pc' := 109) rfl (hb hby at_97) rfl (XT.i0_eq_t (by decide)) (by decide) (by decide) k) ?_
            show own_Go p e below s _ _ _ (T84.setTop (mkF m 109 #[.val (.long p1), .second, .val (.long p2), .second, .val (.long p3), .second, .val (.long p4), .second, .val (.int p5), .val (.long p3), .second, .val (.long p4), .second, .val (.int ((XT.ushr p5 (2 : Int32)) &&& (3 : Int32))), .val (.ref b67), .val (.ref b79), .unset, .val (.int (0 : Int32)), .val (.int (0 : Int32))] []))
            refine own_st (fun _ k => XT.iconstV X84.here hx rfl (0 : Int32) (hb hby at_109) (by decide) k) ?_
            show own_Go p e below s _ _ _ (T84.setTop (mkF m 110 #[.val (.long p1), .second, .val (.long p2), .second, .val (.long p3), .second, .val (.long p4), .second, .val (.int p5), .val (.long p3), .second, .val (.long p4), .second, .val (.int ((XT.ushr p5 (2 : Int32)) &&& (3 : Int32))), .val (.ref b67), .val (.ref b79), .unset, .val (.int (0 : Int32)), .val (.int (0 : Int32))] [(.int (0 : Int32))]))
            refine own_st (fun _ k => XS.istore X84.here hx rfl (hb hby at_110) rfl (l' := #[.val (.long p1), .second, .val (.long p2), .second, .val (.long p3), .second, .val (.long p4), .second, .val (.int p5), .val (.long p3), .second, .val (.long p4), .second, .val (.int ((XT.ushr p5 (2 : Int32)) &&& (3 : Int32))), .val (.ref b67), .val (.ref b79), .val (.int (0 : Int32)), .val (.int (0 : Int32)), .val (.int (0 : Int32))]) rfl k) ?_
            show own_Go p e below s _ _ _ (T84.setTop (mkF m 112 #[.val (.long p1), .second, .val (.long p2), .second, .val (.long p3), .second, .val (.long p4), .second, .val (.int p5), .val (.long p3), .second, .val (.long p4), .second, .val (.int ((XT.ushr p5 (2 : Int32)) &&& (3 : Int32))), .val (.ref b67), .val (.ref b79), .val (.int (0 : Int32)), .val (.int (0 : Int32)), .val (.int (0 : Int32))] []))
            refine own_st (fun _ k => XS.goto X84.here hx rfl (pc0 := 112) (pc' := 155) rfl (hb hby at_112) (by decide) (by decide) k) ?_
            show own_Go p e below s _ _ _ (T84.setTop (mkF m 155 #[.val (.long p1), .second, .val (.long p2), .second, .val (.long p3), .second, .val (.long p4), .second, .val (.int p5), .val (.long p3), .second, .val (.long p4), .second, .val (.int ((XT.ushr p5 (2 : Int32)) &&& (3 : Int32))), .val (.ref b67), .val (.ref b79), .val (.int (0 : Int32)), .val (.int (0 : Int32)), .val (.int (0 : Int32))] []))
            refine own_st (fun _ k => XS.aload X84.here hx rfl (hb hby at_155) rfl rfl k) ?_
            show own_Go p e below s _ _ _ (T84.setTop (mkF m 157 #[.val (.long p1), .second, .val (.long p2), .second, .val (.long p3), .second, .val (.long p4), .second, .val (.int p5), .val (.long p3), .second, .val (.long p4), .second, .val (.int ((XT.ushr p5 (2 : Int32)) &&& (3 : Int32))), .val (.ref b67), .val (.ref b79), .val (.int (0 : Int32)), .val (.int (0 : Int32)), .val (.int (0 : Int32))] [(.ref b67)]))
            refine own_st (fun _ k => XS.aload X84.here hx rfl (hb hby at_157) rfl rfl k) ?_
            show own_Go p e below s _ _ _ (T84.setTop (mkF m 159 #[.val (.long p1), .second, .val (.long p2), .second, .val (.long p3), .second, .val (.long p4), .second, .val (.int p5), .val (.long p3), .second, .val (.long p4), .second, .val (.int ((XT.ushr p5 (2 : Int32)) &&& (3 : Int32))), .val (.ref b67), .val (.ref b79), .val (.int (0 : Int32)), .val (.int (0 : Int32)), .val (.int (0 : Int32))] [(.ref b79), (.ref b67)]))
            have F112 : Exa Z T84.heap b67 "com/example/epoch/epoch/protocol/record/AbortedTransaction" := ((q73.ext E79).keep K84)
            have ne113 : b67 ≠ b79 := Nat.ne_of_lt (Nat.lt_of_lt_of_le (Nat.lt_of_lt_of_le A67.lt K72.1) (Nat.le_of_eq g79.symm))
            have F114 : Fld Z T84.heap b67 "com/example/epoch/epoch/protocol/record/AbortedTransaction" "producerId" "J" (.long p1) := ((q74.ext E79).keep K84 (ninS ne113 nin0))
            have F115 : Fld Z T84.heap b67 "com/example/epoch/epoch/protocol/record/AbortedTransaction" "firstOffset" "J" (.long p2) := ((q75.ext E79).keep K84 (ninS ne113 nin0))
            obtain ⟨cq111, kq111, q111a, q111b, q111c⟩ := isOf hZ rfl F112
            obtain ⟨_, _, ⟨T111, L111, k111, n111⟩, -, X111, ⟨Lc111, hQ111, l111, y111, z111⟩, st111⟩ := X84.virtualBack hx (y := (⟨"com/example/epoch/epoch/protocol/record/AbortedTransaction", "equals", "(Ljava/lang/Object;)Z"⟩ : MethodName)) (z := (⟨"com/example/epoch/epoch/protocol/record/AbortedTransaction", "equals", "(Ljava/lang/Object;)Z"⟩ : MethodName)) hown (mvT hZ (hw _ (List.mem_of_getElem? (i := 13) rfl))) (mvT hZ (hw _ (List.mem_of_getElem? (i := 14) rfl))) (notFace_of_selects (args := #[]) (mvT hZ (hw _ (List.mem_of_getElem? (i := 16) rfl)))) (mvT hZ (hw _ (List.mem_of_getElem? (i := 16) rfl))) (mvT hZ (hw _ (List.mem_of_getElem? (i := 15) rfl))) (by decide) (backOf (W := 0) (own_rm_eqA l Z a0 hw [] b67 b79 p1 p2 p3 p4 T84.heap n0 Zs89 q85 F114 F115 q86 q87) hZ (hw _ (List.mem_of_getElem? (i := 17) rfl)) (hw _ (List.mem_of_getElem? (i := 2) rfl)) (by decide) (by decide)) q111a q111c (g := (mkF m 159 #[.val (.long p1), .second, .val (.long p2), .second, .val (.long p3), .second, .val (.long p4), .second, .val (.int p5), .val (.long p3), .second, .val (.long p4), .second, .val (.int ((XT.ushr p5 (2 : Int32)) &&& (3 : Int32))), .val (.ref b67), .val (.ref b79), .val (.int (0 : Int32)), .val (.int (0 : Int32)), .val (.int (0 : Int32))] [(.ref b79), (.ref b67)])) rfl (by rw [hml]; rfl) (Steps.refl _) (argsL := [(.ref b79)]) (rest := []) (lenOf own_pd3 rfl) rfl (by show 2 * 0 + _ ≤ _; exact Nat.le_of_eq rfl) (hb hby at_159) (fun _ _ => ⟨rfl, rfl, (by decide : 2 + 0 ≤ _), (by decide : 4 + 0 ≤ _)⟩)
            dsimp only [Pt.U, Pt.locs, Pt.cells, Pt.slots] at X111 l111 y111 z111 st111 hQ111
            subst l111 y111 z111
            obtain ⟨N111q, rfl, eh111⟩ := hQ111
            have N116 := Fr.app N88 N111q
            refine own_tr st111 ?_
            show own_Go p e below s _ _ _ (T111.setTop (mkF m 162 #[.val (.long p1), .second, .val (.long p2), .second, .val (.long p3), .second, .val (.long p4), .second, .val (.int p5), .val (.long p3), .second, .val (.long p4), .second, .val (.int ((XT.ushr p5 (2 : Int32)) &&& (3 : Int32))), .val (.ref b67), .val (.ref b79), .val (.int (0 : Int32)), .val (.int (0 : Int32)), .val (.int (0 : Int32))] [(.int (if p1 = p3 then (if p2 = p4 then (1 : Int32) else 0) else 0))]))
            refine own_st (fun _ k => XS.iload X111.here hx rfl (hb hby at_162) rfl k) ?_
            show own_Go p e below s _ _ _ (T111.setTop (mkF m 164 #[.val (.long p1), .second, .val (.long p2), .second, .val (.long p3), .second, .val (.long p4), .second, .val (.int p5), .val (.long p3), .second, .val (.long p4), .second, .val (.int ((XT.ushr p5 (2 : Int32)) &&& (3 : Int32))), .val (.ref b67), .val (.ref b79), .val (.int (0 : Int32)), .val (.int (0 : Int32)), .val (.int (0 : Int32))] [(.int (0 : Int32)), (.int (if p1 = p3 then (if p2 = p4 then (1 : Int32) else 0) else 0))]))
            refine own_st (fun _ k => XS.icmpNo X111.here hx rfl (hb hby at_164) rfl (XT.ii_ne_f (by simp [hc90, hc104])) k) ?_
            show own_Go p e below s _ _ _ (T111.setTop (mkF m 167 #[.val (.long p1), .second, .val (.long p2), .second, .val (.long p3), .second, .val (.long p4), .second, .val (.int p5), .val (.long p3), .second, .val (.long p4), .second, .val (.int ((XT.ushr p5 (2 : Int32)) &&& (3 : Int32))), .val (.ref b67), .val (.ref b79), .val (.int (0 : Int32)), .val (.int (0 : Int32)), .val (.int (0 : Int32))] []))
            refine own_st (fun _ k => XT.iconstV X111.here hx rfl (1 : Int32) (hb hby at_167) (by decide) k) ?_
            show own_Go p e below s _ _ _ (T111.setTop (mkF m 168 #[.val (.long p1), .second, .val (.long p2), .second, .val (.long p3), .second, .val (.long p4), .second, .val (.int p5), .val (.long p3), .second, .val (.long p4), .second, .val (.int ((XT.ushr p5 (2 : Int32)) &&& (3 : Int32))), .val (.ref b67), .val (.ref b79), .val (.int (0 : Int32)), .val (.int (0 : Int32)), .val (.int (0 : Int32))] [(.int (1 : Int32))]))
            refine own_st (fun _ k => XS.goto X111.here hx rfl (pc0 := 168) (pc' := 172) rfl (hb hby at_168) (by decide) (by decide) k) ?_
            show own_Go p e below s _ _ _ (T111.setTop (mkF m 172 #[.val (.long p1), .second, .val (.long p2), .second, .val (.long p3), .second, .val (.long p4), .second, .val (.int p5), .val (.long p3), .second, .val (.long p4), .second, .val (.int ((XT.ushr p5 (2 : Int32)) &&& (3 : Int32))), .val (.ref b67), .val (.ref b79), .val (.int (0 : Int32)), .val (.int (0 : Int32)), .val (.int (0 : Int32))] [(.int (1 : Int32))]))
            refine own_retN X111 hx hlk Bd.returns (t := .boolean) (z' := (1 : Int32)) (by simp) (by decide) (hb hby at_172) (by decide) (by decide) ?_
            rw [eh111]
            exact ⟨N116, rfl⟩
      · refine own_st (fun _ k => XS.ifYes X72.here hx rfl (pc0 := 51) (pc' := 115) rfl (hb hby at_51) rfl (XT.i0_ne_t hc78) (by decide) (by decide) k) ?_
        show own_Go p e below s _ _ _ (T72.setTop (mkF m 115 #[.val (.long p1), .second, .val (.long p2), .second, .val (.long p3), .second, .val (.long p4), .second, .val (.int p5), .val (.long p3), .second, .val (.long p4), .second, .val (.int ((XT.ushr p5 (2 : Int32)) &&& (3 : Int32))), .val (.ref b67), .unset, .unset, .unset, .unset] []))
        refine own_st (fun _ k => XS.iload X72.here hx rfl (hb hby at_115) rfl k) ?_
        show own_Go p e below s _ _ _ (T72.setTop (mkF m 117 #[.val (.long p1), .second, .val (.long p2), .second, .val (.long p3), .second, .val (.long p4), .second, .val (.int p5), .val (.long p3), .second, .val (.long p4), .second, .val (.int ((XT.ushr p5 (2 : Int32)) &&& (3 : Int32))), .val (.ref b67), .unset, .unset, .unset, .unset] [(.int ((XT.ushr p5 (2 : Int32)) &&& (3 : Int32)))]))
        refine own_st (fun _ k => XT.iconstV X72.here hx rfl (1 : Int32) (hb hby at_117) (by decide) k) ?_
        show own_Go p e below s _ _ _ (T72.setTop (mkF m 118 #[.val (.long p1), .second, .val (.long p2), .second, .val (.long p3), .second, .val (.long p4), .second, .val (.int p5), .val (.long p3), .second, .val (.long p4), .second, .val (.int ((XT.ushr p5 (2 : Int32)) &&& (3 : Int32))), .val (.ref b67), .unset, .unset, .unset, .unset] [(.int (1 : Int32)), (.int ((XT.ushr p5 (2 : Int32)) &&& (3 : Int32)))]))
        by_cases hc117 : ((XT.ushr p5 (2 : Int32)) &&& (3 : Int32)) = (1 : Int32)
        · refine own_st (fun _ k => XS.icmpNo X72.here hx rfl (hb hby at_118) rfl (XT.ii_ne_f hc117) k) ?_
          show own_Go p e below s _ _ _ (T72.setTop (mkF m 121 #[.val (.long p1), .second, .val (.long p2), .second, .val (.long p3), .second, .val (.long p4), .second, .val (.int p5), .val (.long p3), .second, .val (.long p4), .second, .val (.int ((XT.ushr p5 (2 : Int32)) &&& (3 : Int32))), .val (.ref b67), .unset, .unset, .unset, .unset] []))
          refine own_st (fun _ k => XS.aconstNull X72.here hx rfl (hb hby at_121) k) ?_
          show own_Go p e below s _ _ _ (T72.setTop (mkF m 122 #[.val (.long p1), .second, .val (.long p2), .second, .val (.long p3), .second, .val (.long p4), .second, .val (.int p5), .val (.long p3), .second, .val (.long p4), .second, .val (.int ((XT.ushr p5 (2 : Int32)) &&& (3 : Int32))), .val (.ref b67), .unset, .unset, .unset, .unset] [.null]))
          refine own_st (fun _ k => XS.astore X72.here hx rfl (hb hby at_122) rfl rfl (l' := #[.val (.long p1), .second, .val (.long p2), .second, .val (.long p3), .second, .val (.long p4), .second, .val (.int p5), .val (.long p3), .second, .val (.long p4), .second, .val (.int ((XT.ushr p5 (2 : Int32)) &&& (3 : Int32))), .val (.ref b67), .val .null, .unset, .unset, .unset]) rfl k) ?_
          show own_Go p e below s _ _ _ (T72.setTop (mkF m 124 #[.val (.long p1), .second, .val (.long p2), .second, .val (.long p3), .second, .val (.long p4), .second, .val (.int p5), .val (.long p3), .second, .val (.long p4), .second, .val (.int ((XT.ushr p5 (2 : Int32)) &&& (3 : Int32))), .val (.ref b67), .val .null, .unset, .unset, .unset] []))
          refine own_st (fun _ k => XT.iconstV X72.here hx rfl (0 : Int32) (hb hby at_124) (by decide) k) ?_
          show own_Go p e below s _ _ _ (T72.setTop (mkF m 125 #[.val (.long p1), .second, .val (.long p2), .second, .val (.long p3), .second, .val (.long p4), .second, .val (.int p5), .val (.long p3), .second, .val (.long p4), .second, .val (.int ((XT.ushr p5 (2 : Int32)) &&& (3 : Int32))), .val (.ref b67), .val .null, .unset, .unset, .unset] [(.int (0 : Int32))]))
          refine own_st (fun _ k => XS.istore X72.here hx rfl (hb hby at_125) rfl (l' := #[.val (.long p1), .second, .val (.long p2), .second, .val (.long p3), .second, .val (.long p4), .second, .val (.int p5), .val (.long p3), .second, .val (.long p4), .second, .val (.int ((XT.ushr p5 (2 : Int32)) &&& (3 : Int32))), .val (.ref b67), .val .null, .val (.int (0 : Int32)), .unset, .unset]) rfl k) ?_
          show own_Go p e below s _ _ _ (T72.setTop (mkF m 127 #[.val (.long p1), .second, .val (.long p2), .second, .val (.long p3), .second, .val (.long p4), .second, .val (.int p5), .val (.long p3), .second, .val (.long p4), .second, .val (.int ((XT.ushr p5 (2 : Int32)) &&& (3 : Int32))), .val (.ref b67), .val .null, .val (.int (0 : Int32)), .unset, .unset] []))
          refine own_st (fun _ k => XS.goto X72.here hx rfl (pc0 := 127) (pc' := 155) rfl (hb hby at_127) (by decide) (by decide) k) ?_
          show own_Go p e below s _ _ _ (T72.setTop (mkF m 155 #[.val (.long p1), .second, .val (.long p2), .second, .val (.long p3), .second, .val (.long p4), .second, .val (.int p5), .val (.long p3), .second, .val (.long p4), .second, .val (.int ((XT.ushr p5 (2 : Int32)) &&& (3 : Int32))), .val (.ref b67), .val .null, .val (.int (0 : Int32)), .unset, .unset] []))
          refine own_st (fun _ k => XS.aload X72.here hx rfl (hb hby at_155) rfl rfl k) ?_
          show own_Go p e below s _ _ _ (T72.setTop (mkF m 157 #[.val (.long p1), .second, .val (.long p2), .second, .val (.long p3), .second, .val (.long p4), .second, .val (.int p5), .val (.long p3), .second, .val (.long p4), .second, .val (.int ((XT.ushr p5 (2 : Int32)) &&& (3 : Int32))), .val (.ref b67), .val .null, .val (.int (0 : Int32)), .unset, .unset] [(.ref b67)]))
          refine own_st (fun _ k => XS.aload X72.here hx rfl (hb hby at_157) rfl rfl k) ?_
          show own_Go p e below s _ _ _ (T72.setTop (mkF m 159 #[.val (.long p1), .second, .val (.long p2), .second, .val (.long p3), .second, .val (.long p4), .second, .val (.int p5), .val (.long p3), .second, .val (.long p4), .second, .val (.int ((XT.ushr p5 (2 : Int32)) &&& (3 : Int32))), .val (.ref b67), .val .null, .val (.int (0 : Int32)), .unset, .unset] [.null, (.ref b67)]))
          obtain ⟨cq118, kq118, q118a, q118b, q118c⟩ := isOf hZ rfl q73
          obtain ⟨_, _, ⟨T118, L118, k118, n118⟩, -, X118, ⟨Lc118, hQ118, l118, y118, z118⟩, st118⟩ := X72.virtualBack hx (y := (⟨"com/example/epoch/epoch/protocol/record/AbortedTransaction", "equals", "(Ljava/lang/Object;)Z"⟩ : MethodName)) (z := (⟨"com/example/epoch/epoch/protocol/record/AbortedTransaction", "equals", "(Ljava/lang/Object;)Z"⟩ : MethodName)) hown (mvT hZ (hw _ (List.mem_of_getElem? (i := 13) rfl))) (mvT hZ (hw _ (List.mem_of_getElem? (i := 14) rfl))) (notFace_of_selects (args := #[]) (mvT hZ (hw _ (List.mem_of_getElem? (i := 16) rfl)))) (mvT hZ (hw _ (List.mem_of_getElem? (i := 16) rfl))) (mvT hZ (hw _ (List.mem_of_getElem? (i := 15) rfl))) (by decide) (backOf (W := 0) (own_rm_eqN l Z a0 hw [] b67 T72.heap n0 Zs77 ) hZ (hw _ (List.mem_of_getElem? (i := 17) rfl)) (hw _ (List.mem_of_getElem? (i := 2) rfl)) (by decide) (by decide)) q118a q118c (g := (mkF m 159 #[.val (.long p1), .second, .val (.long p2), .second, .val (.long p3), .second, .val (.long p4), .second, .val (.int p5), .val (.long p3), .second, .val (.long p4), .second, .val (.int ((XT.ushr p5 (2 : Int32)) &&& (3 : Int32))), .val (.ref b67), .val .null, .val (.int (0 : Int32)), .unset, .unset] [.null, (.ref b67)])) rfl (by rw [hml]; rfl) (Steps.refl _) (argsL := [.null]) (rest := []) (lenOf own_pd3 rfl) rfl (by show 2 * 0 + _ ≤ _; exact Nat.le_of_eq rfl) (hb hby at_159) (fun _ _ => ⟨rfl, rfl, (by decide : 1 + 0 ≤ _), (by decide : 2 + 0 ≤ _)⟩)
          dsimp only [Pt.U, Pt.locs, Pt.cells, Pt.slots] at X118 l118 y118 z118 st118 hQ118
          subst l118 y118 z118
          obtain ⟨N118q, rfl, eh118⟩ := hQ118
          have N119 := Fr.app N76 N118q
          refine own_tr st118 ?_
          show own_Go p e below s _ _ _ (T118.setTop (mkF m 162 #[.val (.long p1), .second, .val (.long p2), .second, .val (.long p3), .second, .val (.long p4), .second, .val (.int p5), .val (.long p3), .second, .val (.long p4), .second, .val (.int ((XT.ushr p5 (2 : Int32)) &&& (3 : Int32))), .val (.ref b67), .val .null, .val (.int (0 : Int32)), .unset, .unset] [(.int (0 : Int32))]))
          refine own_st (fun _ k => XS.iload X118.here hx rfl (hb hby at_162) rfl k) ?_
          show own_Go p e below s _ _ _ (T118.setTop (mkF m 164 #[.val (.long p1), .second, .val (.long p2), .second, .val (.long p3), .second, .val (.long p4), .second, .val (.int p5), .val (.long p3), .second, .val (.long p4), .second, .val (.int ((XT.ushr p5 (2 : Int32)) &&& (3 : Int32))), .val (.ref b67), .val .null, .val (.int (0 : Int32)), .unset, .unset] [(.int (0 : Int32)), (.int (0 : Int32))]))
          refine own_st (fun _ k => XS.icmpNo X118.here hx rfl (hb hby at_164) rfl (XT.ii_ne_f rfl) k) ?_
          show own_Go p e below s _ _ _ (T118.setTop (mkF m 167 #[.val (.long p1), .second, .val (.long p2), .second, .val (.long p3), .second, .val (.long p4), .second, .val (.int p5), .val (.long p3), .second, .val (.long p4), .second, .val (.int ((XT.ushr p5 (2 : Int32)) &&& (3 : Int32))), .val (.ref b67), .val .null, .val (.int (0 : Int32)), .unset, .unset] []))
          refine own_st (fun _ k => XT.iconstV X118.here hx rfl (1 : Int32) (hb hby at_167) (by decide) k) ?_
          show own_Go p e below s _ _ _ (T118.setTop (mkF m 168 #[.val (.long p1), .second, .val (.long p2), .second, .val (.long p3), .second, .val (.long p4), .second, .val (.int p5), .val (.long p3), .second, .val (.long p4), .second, .val (.int ((XT.ushr p5 (2 : Int32)) &&& (3 : Int32))), .val (.ref b67), .val .null, .val (.int (0 : Int32)), .unset, .unset] [(.int (1 : Int32))]))
          refine own_st (fun _ k => XS.goto X118.here hx rfl (pc0 := 168) (pc' := 172) rfl (hb hby at_168) (by decide) (by decide) k) ?_
          show own_Go p e below s _ _ _ (T118.setTop (mkF m 172 #[.val (.long p1), .second, .val (.long p2), .second, .val (.long p3), .second, .val (.long p4), .second, .val (.int p5), .val (.long p3), .second, .val (.long p4), .second, .val (.int ((XT.ushr p5 (2 : Int32)) &&& (3 : Int32))), .val (.ref b67), .val .null, .val (.int (0 : Int32)), .unset, .unset] [(.int (1 : Int32))]))
          refine own_retN X118 hx hlk Bd.returns (t := .boolean) (z' := (1 : Int32)) (by simp) (by decide) (hb hby at_172) (by decide) (by decide) ?_
          rw [eh118]
          exact ⟨N119, rfl⟩
        · refine own_st (fun _ k => XS.icmpYes X72.here hx rfl (pc0 := 118) (pc' := 130) rfl (hb hby at_118) rfl (XT.ii_ne_t hc117) (by decide) (by decide) k) ?_
          show own_Go p e below s _ _ _ (T72.setTop (mkF m 130 #[.val (.long p1), .second, .val (.long p2), .second, .val (.long p3), .second, .val (.long p4), .second, .val (.int p5), .val (.long p3), .second, .val (.long p4), .second, .val (.int ((XT.ushr p5 (2 : Int32)) &&& (3 : Int32))), .val (.ref b67), .unset, .unset, .unset, .unset] []))
          refine own_st (fun _ k => XS.iload X72.here hx rfl (hb hby at_130) rfl k) ?_
          show own_Go p e below s _ _ _ (T72.setTop (mkF m 132 #[.val (.long p1), .second, .val (.long p2), .second, .val (.long p3), .second, .val (.long p4), .second, .val (.int p5), .val (.long p3), .second, .val (.long p4), .second, .val (.int ((XT.ushr p5 (2 : Int32)) &&& (3 : Int32))), .val (.ref b67), .unset, .unset, .unset, .unset] [(.int ((XT.ushr p5 (2 : Int32)) &&& (3 : Int32)))]))
          refine own_st (fun _ k => XT.iconstV X72.here hx rfl (2 : Int32) (hb hby at_132) (by decide) k) ?_
          show own_Go p e below s _ _ _ (T72.setTop (mkF m 133 #[.val (.long p1), .second, .val (.long p2), .second, .val (.long p3), .second, .val (.long p4), .second, .val (.int p5), .val (.long p3), .second, .val (.long p4), .second, .val (.int ((XT.ushr p5 (2 : Int32)) &&& (3 : Int32))), .val (.ref b67), .unset, .unset, .unset, .unset] [(.int (2 : Int32)), (.int ((XT.ushr p5 (2 : Int32)) &&& (3 : Int32)))]))
          by_cases hc120 : ((XT.ushr p5 (2 : Int32)) &&& (3 : Int32)) = (2 : Int32)
          · refine own_st (fun _ k => XS.icmpNo X72.here hx rfl (hb hby at_133) rfl (XT.ii_ne_f hc120) k) ?_
            show own_Go p e below s _ _ _ (T72.setTop (mkF m 136 #[.val (.long p1), .second, .val (.long p2), .second, .val (.long p3), .second, .val (.long p4), .second, .val (.int p5), .val (.long p3), .second, .val (.long p4), .second, .val (.int ((XT.ushr p5 (2 : Int32)) &&& (3 : Int32))), .val (.ref b67), .unset, .unset, .unset, .unset] []))
            refine own_st (fun _ k => XT.lloadN X72.here hx rfl (hb hby at_136) rfl k) ?_
            show own_Go p e below s _ _ _ (T72.setTop (mkF m 137 #[.val (.long p1), .second, .val (.long p2), .second, .val (.long p3), .second, .val (.long p4), .second, .val (.int p5), .val (.long p3), .second, .val (.long p4), .second, .val (.int ((XT.ushr p5 (2 : Int32)) &&& (3 : Int32))), .val (.ref b67), .unset, .unset, .unset, .unset] [(.long p1)]))
            have O122 : Old Z n0 T72.heap := ((O0.ext E67).keep K72 (allS g69 all0))
            obtain ⟨_, _, ⟨T121, L121, k121, n121⟩, -, X121, ⟨Lc121, hQ121, l121, y121, z121⟩, st121⟩ := Jvm.LawKit.callS X72 hx (y := (⟨"java/lang/Long", "valueOf", "(J)Ljava/lang/Long;"⟩ : MethodName)) hown (mvT hZ (hw _ (List.mem_of_getElem? (i := 20) rfl))) (mvT hZ (hw _ (List.mem_of_getElem? (i := 21) rfl))) (mvT hZ (hw _ (List.mem_of_getElem? (i := 22) rfl))) (mvT hZ (hw _ (List.mem_of_getElem? (i := 23) rfl))) (by decide) (backOf (W := 0) (own_rm_valueOfJ l Z a0 hw [] p1 a_cacheJ T72.heap n0 Zs77 O122 S_cacheJ BxJ) hZ (hw _ (List.mem_of_getElem? (i := 23) rfl)) (hw _ (List.mem_of_getElem? (i := 22) rfl)) (by decide) (by decide)) (g := (mkF m 137 #[.val (.long p1), .second, .val (.long p2), .second, .val (.long p3), .second, .val (.long p4), .second, .val (.int p5), .val (.long p3), .second, .val (.long p4), .second, .val (.int ((XT.ushr p5 (2 : Int32)) &&& (3 : Int32))), .val (.ref b67), .unset, .unset, .unset, .unset] [(.long p1)])) rfl (by rw [hml]; rfl) (argsL := [(.long p1)]) (rest := []) (lenOf own_pd4 rfl) rfl (by show 2 * 0 + _ ≤ _; exact Nat.le_of_eq rfl) (hb hby at_137) (fun _ _ => ⟨rfl, rfl, (by decide : 1 + 1 ≤ _), (by decide : 2 + 1 ≤ _)⟩)
            dsimp only [Pt.U, Pt.locs, Pt.cells, Pt.slots] at X121 l121 y121 z121 st121 hQ121
            subst l121 y121 z121
            obtain ⟨x123, N121q, rfl, K121, q124, q125⟩ := hQ121
            have N126 := Fr.app N76 N121q
            refine own_st st121 ?_
            have Zs127 : n0 ≤ T121.heap.size := Nat.le_trans Zs77 K121.1
            show own_Go p e below s _ _ _ (T121.setTop (mkF m 140 #[.val (.long p1), .second, .val (.long p2), .second, .val (.long p3), .second, .val (.long p4), .second, .val (.int p5), .val (.long p3), .second, .val (.long p4), .second, .val (.int ((XT.ushr p5 (2 : Int32)) &&& (3 : Int32))), .val (.ref b67), .unset, .unset, .unset, .unset] [(.ref x123)]))
            refine own_st (fun _ k => XS.astore X121.here hx rfl (hb hby at_140) rfl rfl (l' := #[.val (.long p1), .second, .val (.long p2), .second, .val (.long p3), .second, .val (.long p4), .second, .val (.int p5), .val (.long p3), .second, .val (.long p4), .second, .val (.int ((XT.ushr p5 (2 : Int32)) &&& (3 : Int32))), .val (.ref b67), .val (.ref x123), .unset, .unset, .unset]) rfl k) ?_
            show own_Go p e below s _ _ _ (T121.setTop (mkF m 142 #[.val (.long p1), .second, .val (.long p2), .second, .val (.long p3), .second, .val (.long p4), .second, .val (.int p5), .val (.long p3), .second, .val (.long p4), .second, .val (.int ((XT.ushr p5 (2 : Int32)) &&& (3 : Int32))), .val (.ref b67), .val (.ref x123), .unset, .unset, .unset] []))
            refine own_st (fun _ k => XT.iconstV X121.here hx rfl (0 : Int32) (hb hby at_142) (by decide) k) ?_
            show own_Go p e below s _ _ _ (T121.setTop (mkF m 143 #[.val (.long p1), .second, .val (.long p2), .second, .val (.long p3), .second, .val (.long p4), .second, .val (.int p5), .val (.long p3), .second, .val (.long p4), .second, .val (.int ((XT.ushr p5 (2 : Int32)) &&& (3 : Int32))), .val (.ref b67), .val (.ref x123), .unset, .unset, .unset] [(.int (0 : Int32))]))
            refine own_st (fun _ k => XS.istore X121.here hx rfl (hb hby at_143) rfl (l' := #[.val (.long p1), .second, .val (.long p2), .second, .val (.long p3), .second, .val (.long p4), .second, .val (.int p5), .val (.long p3), .second, .val (.long p4), .second, .val (.int ((XT.ushr p5 (2 : Int32)) &&& (3 : Int32))), .val (.ref b67), .val (.ref x123), .val (.int (0 : Int32)), .unset, .unset]) rfl k) ?_
            show own_Go p e below s _ _ _ (T121.setTop (mkF m 145 #[.val (.long p1), .second, .val (.long p2), .second, .val (.long p3), .second, .val (.long p4), .second, .val (.int p5), .val (.long p3), .second, .val (.long p4), .second, .val (.int ((XT.ushr p5 (2 : Int32)) &&& (3 : Int32))), .val (.ref b67), .val (.ref x123), .val (.int (0 : Int32)), .unset, .unset] []))
            refine own_st (fun _ k => XS.goto X121.here hx rfl (pc0 := 145) (pc' := 155) rfl (hb hby at_145) (by decide) (by decide) k) ?_
            show own_Go p e below s _ _ _ (T121.setTop (mkF m 155 #[.val (.long p1), .second, .val (.long p2), .second, .val (.long p3), .second, .val (.long p4), .second, .val (.int p5), .val (.long p3), .second, .val (.long p4), .second, .val (.int ((XT.ushr p5 (2 : Int32)) &&& (3 : Int32))), .val (.ref b67), .val (.ref x123), .val (.int (0 : Int32)), .unset, .unset] []))
            refine own_st (fun _ k => XS.aload X121.here hx rfl (hb hby at_155) rfl rfl k) ?_
            show own_Go p e below s _ _ _ (T121.setTop (mkF m 157 #[.val (.long p1), .second, .val (.long p2), .second, .val (.long p3), .second, .val (.long p4), .second, .val (.int p5), .val (.long p3), .second, .val (.long p4), .second, .val (.int ((XT.ushr p5 (2 : Int32)) &&& (3 : Int32))), .val (.ref b67), .val (.ref x123), .val (.int (0 : Int32)), .unset, .unset] [(.ref b67)]))
            refine own_st (fun _ k => XS.aload X121.here hx rfl (hb hby at_157) rfl rfl k) ?_
            show own_Go p e below s _ _ _ (T121.setTop (mkF m 159 #[.val (.long p1), .second, .val (.long p2), .second, .val (.long p3), .second, .val (.long p4), .second, .val (.int p5), .val (.long p3), .second, .val (.long p4), .second, .val (.int ((XT.ushr p5 (2 : Int32)) &&& (3 : Int32))), .val (.ref b67), .val (.ref x123), .val (.int (0 : Int32)), .unset, .unset] [(.ref x123), (.ref b67)]))
            have F129 : Exa Z T121.heap b67 "com/example/epoch/epoch/protocol/record/AbortedTransaction" := (q73.keep K121)
            obtain ⟨cq128, kq128, q128a, q128b, q128c⟩ := isOf hZ rfl F129
            obtain ⟨_, _, ⟨T128, L128, k128, n128⟩, -, X128, ⟨Lc128, hQ128, l128, y128, z128⟩, st128⟩ := X121.virtualBack hx (y := (⟨"com/example/epoch/epoch/protocol/record/AbortedTransaction", "equals", "(Ljava/lang/Object;)Z"⟩ : MethodName)) (z := (⟨"com/example/epoch/epoch/protocol/record/AbortedTransaction", "equals", "(Ljava/lang/Object;)Z"⟩ : MethodName)) hown (mvT hZ (hw _ (List.mem_of_getElem? (i := 13) rfl))) (mvT hZ (hw _ (List.mem_of_getElem? (i := 14) rfl))) (notFace_of_selects (args := #[]) (mvT hZ (hw _ (List.mem_of_getElem? (i := 16) rfl)))) (mvT hZ (hw _ (List.mem_of_getElem? (i := 16) rfl))) (mvT hZ (hw _ (List.mem_of_getElem? (i := 15) rfl))) (by decide) (backOf (W := 0) (own_rm_eqL l Z a0 hw [] b67 x123 T121.heap n0 Zs127 q124) hZ (hw _ (List.mem_of_getElem? (i := 17) rfl)) (hw _ (List.mem_of_getElem? (i := 2) rfl)) (by decide) (by decide)) q128a q128c (g := (mkF m 159 #[.val (.long p1), .second, .val (.long p2), .second, .val (.long p3), .second, .val (.long p4), .second, .val (.int p5), .val (.long p3), .second, .val (.long p4), .second, .val (.int ((XT.ushr p5 (2 : Int32)) &&& (3 : Int32))), .val (.ref b67), .val (.ref x123), .val (.int (0 : Int32)), .unset, .unset] [(.ref x123), (.ref b67)])) rfl (by rw [hml]; rfl) (Steps.refl _) (argsL := [(.ref x123)]) (rest := []) (lenOf own_pd3 rfl) rfl (by show 2 * 0 + _ ≤ _; exact Nat.le_of_eq rfl) (hb hby at_159) (fun _ _ => ⟨rfl, rfl, (by decide : 2 + 0 ≤ _), (by decide : 3 + 0 ≤ _)⟩)
            dsimp only [Pt.U, Pt.locs, Pt.cells, Pt.slots] at X128 l128 y128 z128 st128 hQ128
            subst l128 y128 z128
            obtain ⟨N128q, rfl, eh128⟩ := hQ128
            have N130 := Fr.app N126 N128q
            refine own_tr st128 ?_
            show own_Go p e below s _ _ _ (T128.setTop (mkF m 162 #[.val (.long p1), .second, .val (.long p2), .second, .val (.long p3), .second, .val (.long p4), .second, .val (.int p5), .val (.long p3), .second, .val (.long p4), .second, .val (.int ((XT.ushr p5 (2 : Int32)) &&& (3 : Int32))), .val (.ref b67), .val (.ref x123), .val (.int (0 : Int32)), .unset, .unset] [(.int (0 : Int32))]))
            refine own_st (fun _ k => XS.iload X128.here hx rfl (hb hby at_162) rfl k) ?_
            show own_Go p e below s _ _ _ (T128.setTop (mkF m 164 #[.val (.long p1), .second, .val (.long p2), .second, .val (.long p3), .second, .val (.long p4), .second, .val (.int p5), .val (.long p3), .second, .val (.long p4), .second, .val (.int ((XT.ushr p5 (2 : Int32)) &&& (3 : Int32))), .val (.ref b67), .val (.ref x123), .val (.int (0 : Int32)), .unset, .unset] [(.int (0 : Int32)), (.int (0 : Int32))]))
            refine own_st (fun _ k => XS.icmpNo X128.here hx rfl (hb hby at_164) rfl (XT.ii_ne_f rfl) k) ?_
            show own_Go p e below s _ _ _ (T128.setTop (mkF m 167 #[.val (.long p1), .second, .val (.long p2), .second, .val (.long p3), .second, .val (.long p4), .second, .val (.int p5), .val (.long p3), .second, .val (.long p4), .second, .val (.int ((XT.ushr p5 (2 : Int32)) &&& (3 : Int32))), .val (.ref b67), .val (.ref x123), .val (.int (0 : Int32)), .unset, .unset] []))
            refine own_st (fun _ k => XT.iconstV X128.here hx rfl (1 : Int32) (hb hby at_167) (by decide) k) ?_
            show own_Go p e below s _ _ _ (T128.setTop (mkF m 168 #[.val (.long p1), .second, .val (.long p2), .second, .val (.long p3), .second, .val (.long p4), .second, .val (.int p5), .val (.long p3), .second, .val (.long p4), .second, .val (.int ((XT.ushr p5 (2 : Int32)) &&& (3 : Int32))), .val (.ref b67), .val (.ref x123), .val (.int (0 : Int32)), .unset, .unset] [(.int (1 : Int32))]))
            refine own_st (fun _ k => XS.goto X128.here hx rfl (pc0 := 168) (pc' := 172) rfl (hb hby at_168) (by decide) (by decide) k) ?_
            show own_Go p e below s _ _ _ (T128.setTop (mkF m 172 #[.val (.long p1), .second, .val (.long p2), .second, .val (.long p3), .second, .val (.long p4), .second, .val (.int p5), .val (.long p3), .second, .val (.long p4), .second, .val (.int ((XT.ushr p5 (2 : Int32)) &&& (3 : Int32))), .val (.ref b67), .val (.ref x123), .val (.int (0 : Int32)), .unset, .unset] [(.int (1 : Int32))]))
            refine own_retN X128 hx hlk Bd.returns (t := .boolean) (z' := (1 : Int32)) (by simp) (by decide) (hb hby at_172) (by decide) (by decide) ?_
            rw [eh128]
            exact ⟨N130, rfl⟩
          · refine own_st (fun _ k => XS.icmpYes X72.here hx rfl (pc0 := 133) (pc' := 148) rfl (hb hby at_133) rfl (XT.ii_ne_t hc120) (by decide) (by decide) k) ?_
            show own_Go p e below s _ _ _ (T72.setTop (mkF m 148 #[.val (.long p1), .second, .val (.long p2), .second, .val (.long p3), .second, .val (.long p4), .second, .val (.int p5), .val (.long p3), .second, .val (.long p4), .second, .val (.int ((XT.ushr p5 (2 : Int32)) &&& (3 : Int32))), .val (.ref b67), .unset, .unset, .unset, .unset] []))
            refine own_st (fun _ k => XS.aload X72.here hx rfl (hb hby at_148) rfl rfl k) ?_
            show own_Go p e below s _ _ _ (T72.setTop (mkF m 150 #[.val (.long p1), .second, .val (.long p2), .second, .val (.long p3), .second, .val (.long p4), .second, .val (.int p5), .val (.long p3), .second, .val (.long p4), .second, .val (.int ((XT.ushr p5 (2 : Int32)) &&& (3 : Int32))), .val (.ref b67), .unset, .unset, .unset, .unset] [(.ref b67)]))
            refine own_st (fun _ k => XS.astore X72.here hx rfl (hb hby at_150) rfl rfl (l' := #[.val (.long p1), .second, .val (.long p2), .second, .val (.long p3), .second, .val (.long p4), .second, .val (.int p5), .val (.long p3), .second, .val (.long p4), .second, .val (.int ((XT.ushr p5 (2 : Int32)) &&& (3 : Int32))), .val (.ref b67), .val (.ref b67), .unset, .unset, .unset]) rfl k) ?_
            show own_Go p e below s _ _ _ (T72.setTop (mkF m 152 #[.val (.long p1), .second, .val (.long p2), .second, .val (.long p3), .second, .val (.long p4), .second, .val (.int p5), .val (.long p3), .second, .val (.long p4), .second, .val (.int ((XT.ushr p5 (2 : Int32)) &&& (3 : Int32))), .val (.ref b67), .val (.ref b67), .unset, .unset, .unset] []))
            refine own_st (fun _ k => XT.iconstV X72.here hx rfl (1 : Int32) (hb hby at_152) (by decide) k) ?_
            show own_Go p e below s _ _ _ (T72.setTop (mkF m 153 #[.val (.long p1), .second, .val (.long p2), .second, .val (.long p3), .second, .val (.long p4), .second, .val (.int p5), .val (.long p3), .second, .val (.long p4), .second, .val (.int ((XT.ushr p5 (2 : Int32)) &&& (3 : Int32))), .val (.ref b67), .val (.ref b67), .unset, .unset, .unset] [(.int (1 : Int32))]))
            refine own_st (fun _ k => XS.istore X72.here hx rfl (hb hby at_153) rfl (l' := #[.val (.long p1), .second, .val (.long p2), .second, .val (.long p3), .second, .val (.long p4), .second, .val (.int p5), .val (.long p3), .second, .val (.long p4), .second, .val (.int ((XT.ushr p5 (2 : Int32)) &&& (3 : Int32))), .val (.ref b67), .val (.ref b67), .val (.int (1 : Int32)), .unset, .unset]) rfl k) ?_
            show own_Go p e below s _ _ _ (T72.setTop (mkF m 155 #[.val (.long p1), .second, .val (.long p2), .second, .val (.long p3), .second, .val (.long p4), .second, .val (.int p5), .val (.long p3), .second, .val (.long p4), .second, .val (.int ((XT.ushr p5 (2 : Int32)) &&& (3 : Int32))), .val (.ref b67), .val (.ref b67), .val (.int (1 : Int32)), .unset, .unset] []))
            refine own_st (fun _ k => XS.aload X72.here hx rfl (hb hby at_155) rfl rfl k) ?_
            show own_Go p e below s _ _ _ (T72.setTop (mkF m 157 #[.val (.long p1), .second, .val (.long p2), .second, .val (.long p3), .second, .val (.long p4), .second, .val (.int p5), .val (.long p3), .second, .val (.long p4), .second, .val (.int ((XT.ushr p5 (2 : Int32)) &&& (3 : Int32))), .val (.ref b67), .val (.ref b67), .val (.int (1 : Int32)), .unset, .unset] [(.ref b67)]))
            refine own_st (fun _ k => XS.aload X72.here hx rfl (hb hby at_157) rfl rfl k) ?_
            show own_Go p e below s _ _ _ (T72.setTop (mkF m 159 #[.val (.long p1), .second, .val (.long p2), .second, .val (.long p3), .second, .val (.long p4), .second, .val (.int p5), .val (.long p3), .second, .val (.long p4), .second, .val (.int ((XT.ushr p5 (2 : Int32)) &&& (3 : Int32))), .val (.ref b67), .val (.ref b67), .val (.int (1 : Int32)), .unset, .unset] [(.ref b67), (.ref b67)]))
            obtain ⟨cq131, kq131, q131a, q131b, q131c⟩ := isOf hZ rfl q73
            obtain ⟨_, _, ⟨T131, L131, k131, n131⟩, -, X131, ⟨Lc131, hQ131, l131, y131, z131⟩, st131⟩ := X72.virtualBack hx (y := (⟨"com/example/epoch/epoch/protocol/record/AbortedTransaction", "equals", "(Ljava/lang/Object;)Z"⟩ : MethodName)) (z := (⟨"com/example/epoch/epoch/protocol/record/AbortedTransaction", "equals", "(Ljava/lang/Object;)Z"⟩ : MethodName)) hown (mvT hZ (hw _ (List.mem_of_getElem? (i := 13) rfl))) (mvT hZ (hw _ (List.mem_of_getElem? (i := 14) rfl))) (notFace_of_selects (args := #[]) (mvT hZ (hw _ (List.mem_of_getElem? (i := 16) rfl)))) (mvT hZ (hw _ (List.mem_of_getElem? (i := 16) rfl))) (mvT hZ (hw _ (List.mem_of_getElem? (i := 15) rfl))) (by decide) (backOf (W := 0) (own_rm_eqA l Z a0 hw [] b67 b67 p1 p2 p1 p2 T72.heap n0 Zs77 q73 q74 q75 q74 q75) hZ (hw _ (List.mem_of_getElem? (i := 17) rfl)) (hw _ (List.mem_of_getElem? (i := 2) rfl)) (by decide) (by decide)) q131a q131c (g := (mkF m 159 #[.val (.long p1), .second, .val (.long p2), .second, .val (.long p3), .second, .val (.long p4), .second, .val (.int p5), .val (.long p3), .second, .val (.long p4), .second, .val (.int ((XT.ushr p5 (2 : Int32)) &&& (3 : Int32))), .val (.ref b67), .val (.ref b67), .val (.int (1 : Int32)), .unset, .unset] [(.ref b67), (.ref b67)])) rfl (by rw [hml]; rfl) (Steps.refl _) (argsL := [(.ref b67)]) (rest := []) (lenOf own_pd3 rfl) rfl (by show 2 * 0 + _ ≤ _; exact Nat.le_of_eq rfl) (hb hby at_159) (fun _ _ => ⟨rfl, rfl, (by decide : 1 + 0 ≤ _), (by decide : 2 + 0 ≤ _)⟩)
            dsimp only [Pt.U, Pt.locs, Pt.cells, Pt.slots] at X131 l131 y131 z131 st131 hQ131
            subst l131 y131 z131
            obtain ⟨N131q, rfl, eh131⟩ := hQ131
            have N132 := Fr.app N76 N131q
            refine own_tr st131 ?_
            show own_Go p e below s _ _ _ (T131.setTop (mkF m 162 #[.val (.long p1), .second, .val (.long p2), .second, .val (.long p3), .second, .val (.long p4), .second, .val (.int p5), .val (.long p3), .second, .val (.long p4), .second, .val (.int ((XT.ushr p5 (2 : Int32)) &&& (3 : Int32))), .val (.ref b67), .val (.ref b67), .val (.int (1 : Int32)), .unset, .unset] [(.int (if p1 = p1 then (if p2 = p2 then (1 : Int32) else 0) else 0))]))
            refine own_st (fun _ k => XS.iload X131.here hx rfl (hb hby at_162) rfl k) ?_
            show own_Go p e below s _ _ _ (T131.setTop (mkF m 164 #[.val (.long p1), .second, .val (.long p2), .second, .val (.long p3), .second, .val (.long p4), .second, .val (.int p5), .val (.long p3), .second, .val (.long p4), .second, .val (.int ((XT.ushr p5 (2 : Int32)) &&& (3 : Int32))), .val (.ref b67), .val (.ref b67), .val (.int (1 : Int32)), .unset, .unset] [(.int (1 : Int32)), (.int (if p1 = p1 then (if p2 = p2 then (1 : Int32) else 0) else 0))]))
            refine own_st (fun _ k => XS.icmpNo X131.here hx rfl (hb hby at_164) rfl (XT.ii_ne_f (by simp [])) k) ?_
            show own_Go p e below s _ _ _ (T131.setTop (mkF m 167 #[.val (.long p1), .second, .val (.long p2), .second, .val (.long p3), .second, .val (.long p4), .second, .val (.int p5), .val (.long p3), .second, .val (.long p4), .second, .val (.int ((XT.ushr p5 (2 : Int32)) &&& (3 : Int32))), .val (.ref b67), .val (.ref b67), .val (.int (1 : Int32)), .unset, .unset] []))
            refine own_st (fun _ k => XT.iconstV X131.here hx rfl (1 : Int32) (hb hby at_167) (by decide) k) ?_
            show own_Go p e below s _ _ _ (T131.setTop (mkF m 168 #[.val (.long p1), .second, .val (.long p2), .second, .val (.long p3), .second, .val (.long p4), .second, .val (.int p5), .val (.long p3), .second, .val (.long p4), .second, .val (.int ((XT.ushr p5 (2 : Int32)) &&& (3 : Int32))), .val (.ref b67), .val (.ref b67), .val (.int (1 : Int32)), .unset, .unset] [(.int (1 : Int32))]))
            refine own_st (fun _ k => XS.goto X131.here hx rfl (pc0 := 168) (pc' := 172) rfl (hb hby at_168) (by decide) (by decide) k) ?_
            show own_Go p e below s _ _ _ (T131.setTop (mkF m 172 #[.val (.long p1), .second, .val (.long p2), .second, .val (.long p3), .second, .val (.long p4), .second, .val (.int p5), .val (.long p3), .second, .val (.long p4), .second, .val (.int ((XT.ushr p5 (2 : Int32)) &&& (3 : Int32))), .val (.ref b67), .val (.ref b67), .val (.int (1 : Int32)), .unset, .unset] [(.int (1 : Int32))]))
            refine own_retN X131 hx hlk Bd.returns (t := .boolean) (z' := (1 : Int32)) (by simp) (by decide) (hb hby at_172) (by decide) (by decide) ?_
            rw [eh131]
            exact ⟨N132, rfl⟩
    · refine own_st (fun _ k => XS.ifNo X0.here hx rfl (hb hby at_19) rfl (XT.i0_eq_f hc66) k) ?_
      show own_Go p e below s _ _ _ (s₁.setTop (mkF m 22 #[.val (.long p1), .second, .val (.long p2), .second, .val (.long p3), .second, .val (.long p4), .second, .val (.int p5), .val (.long p3), .second, .unset, .unset, .unset, .unset, .unset, .unset, .unset, .unset] []))
      refine own_st (fun _ k => XT.lloadN X0.here hx rfl (hb hby at_22) rfl k) ?_
      show own_Go p e below s _ _ _ (s₁.setTop (mkF m 23 #[.val (.long p1), .second, .val (.long p2), .second, .val (.long p3), .second, .val (.long p4), .second, .val (.int p5), .val (.long p3), .second, .unset, .unset, .unset, .unset, .unset, .unset, .unset, .unset] [(.long p2)]))
      refine own_st (fun _ k => XS.goto X0.here hx rfl (pc0 := 23) (pc' := 28) rfl (hb hby at_23) (by decide) (by decide) k) ?_
      show own_Go p e below s _ _ _ (s₁.setTop (mkF m 28 #[.val (.long p1), .second, .val (.long p2), .second, .val (.long p3), .second, .val (.long p4), .second, .val (.int p5), .val (.long p3), .second, .unset, .unset, .unset, .unset, .unset, .unset, .unset, .unset] [(.long p2)]))
      refine own_st (fun _ k => XT.lstore X0.here hx rfl (hb hby at_28) rfl (l' := #[.val (.long p1), .second, .val (.long p2), .second, .val (.long p3), .second, .val (.long p4), .second, .val (.int p5), .val (.long p3), .second, .val (.long p2), .second, .unset, .unset, .unset, .unset, .unset, .unset]) rfl k) ?_
      show own_Go p e below s _ _ _ (s₁.setTop (mkF m 30 #[.val (.long p1), .second, .val (.long p2), .second, .val (.long p3), .second, .val (.long p4), .second, .val (.int p5), .val (.long p3), .second, .val (.long p2), .second, .unset, .unset, .unset, .unset, .unset, .unset] []))
      refine own_st (fun _ k => XS.iload X0.here hx rfl (hb hby at_30) rfl k) ?_
      show own_Go p e below s _ _ _ (s₁.setTop (mkF m 32 #[.val (.long p1), .second, .val (.long p2), .second, .val (.long p3), .second, .val (.long p4), .second, .val (.int p5), .val (.long p3), .second, .val (.long p2), .second, .unset, .unset, .unset, .unset, .unset, .unset] [(.int p5)]))
      refine own_st (fun _ k => XT.iconstV X0.here hx rfl (2 : Int32) (hb hby at_32) (by decide) k) ?_
      show own_Go p e below s _ _ _ (s₁.setTop (mkF m 33 #[.val (.long p1), .second, .val (.long p2), .second, .val (.long p3), .second, .val (.long p4), .second, .val (.int p5), .val (.long p3), .second, .val (.long p2), .second, .unset, .unset, .unset, .unset, .unset, .unset] [(.int (2 : Int32)), (.int p5)]))
      refine own_st (fun _ k => XT.iushr X0.here hx rfl (hb hby at_33) rfl k) ?_
      show own_Go p e below s _ _ _ (s₁.setTop (mkF m 34 #[.val (.long p1), .second, .val (.long p2), .second, .val (.long p3), .second, .val (.long p4), .second, .val (.int p5), .val (.long p3), .second, .val (.long p2), .second, .unset, .unset, .unset, .unset, .unset, .unset] [(.int (XT.ushr p5 (2 : Int32)))]))
      refine own_st (fun _ k => XT.iconstV X0.here hx rfl (3 : Int32) (hb hby at_34) (by decide) k) ?_
      show own_Go p e below s _ _ _ (s₁.setTop (mkF m 35 #[.val (.long p1), .second, .val (.long p2), .second, .val (.long p3), .second, .val (.long p4), .second, .val (.int p5), .val (.long p3), .second, .val (.long p2), .second, .unset, .unset, .unset, .unset, .unset, .unset] [(.int (3 : Int32)), (.int (XT.ushr p5 (2 : Int32)))]))
      refine own_st (fun _ k => XS.iand X0.here hx rfl (hb hby at_35) rfl k) ?_
      show own_Go p e below s _ _ _ (s₁.setTop (mkF m 36 #[.val (.long p1), .second, .val (.long p2), .second, .val (.long p3), .second, .val (.long p4), .second, .val (.int p5), .val (.long p3), .second, .val (.long p2), .second, .unset, .unset, .unset, .unset, .unset, .unset] [(.int ((XT.ushr p5 (2 : Int32)) &&& (3 : Int32)))]))
      refine own_st (fun _ k => XS.istore X0.here hx rfl (hb hby at_36) rfl (l' := #[.val (.long p1), .second, .val (.long p2), .second, .val (.long p3), .second, .val (.long p4), .second, .val (.int p5), .val (.long p3), .second, .val (.long p2), .second, .val (.int ((XT.ushr p5 (2 : Int32)) &&& (3 : Int32))), .unset, .unset, .unset, .unset, .unset]) rfl k) ?_
      show own_Go p e below s _ _ _ (s₁.setTop (mkF m 38 #[.val (.long p1), .second, .val (.long p2), .second, .val (.long p3), .second, .val (.long p4), .second, .val (.int p5), .val (.long p3), .second, .val (.long p2), .second, .val (.int ((XT.ushr p5 (2 : Int32)) &&& (3 : Int32))), .unset, .unset, .unset, .unset, .unset] []))
      obtain ⟨T133, h133, X133, e133, E133, A133, D133, -, st133⟩ := newO X0 hx hZ hown (hw _ (List.mem_of_getElem? (i := 0) rfl)) (hw _ (List.mem_of_getElem? (i := 1) rfl)) (hw _ (List.mem_of_getElem? (i := 2) rfl)) e0 (g := (mkF m 38 #[.val (.long p1), .second, .val (.long p2), .second, .val (.long p3), .second, .val (.long p4), .second, .val (.int p5), .val (.long p3), .second, .val (.long p2), .second, .val (.int ((XT.ushr p5 (2 : Int32)) &&& (3 : Int32))), .unset, .unset, .unset, .unset, .unset] [])) rfl (hb hby at_38) (by decide) (by decide)
      obtain ⟨b133, g133⟩ : ∃ z, z = h0.size := ⟨_, rfl⟩
      rw [← g133] at A133 D133 st133
      refine own_st st133 ?_
      have Zs134 : n0 ≤ h133.size := Nat.le_trans Z0 E133.1
      have g135 : n0 ≤ b133 := Nat.le_trans Z0 (Nat.le_of_eq g133.symm)
      have F136 : Fld Z h133 b133 "com/example/epoch/epoch/protocol/record/AbortedTransaction" "producerId" "J" (.long (0 : Int64)) := D133 (Or.inr (hw _ (List.mem_of_getElem? (i := 10) rfl))) (ty := .long) (by decide)
      have F137 : Fld Z h133 b133 "com/example/epoch/epoch/protocol/record/AbortedTransaction" "firstOffset" "J" (.long (0 : Int64)) := D133 (Or.inr (hw _ (List.mem_of_getElem? (i := 12) rfl))) (ty := .long) (by decide)
      show own_Go p e below s _ _ _ (T133.setTop (mkF m 41 #[.val (.long p1), .second, .val (.long p2), .second, .val (.long p3), .second, .val (.long p4), .second, .val (.int p5), .val (.long p3), .second, .val (.long p2), .second, .val (.int ((XT.ushr p5 (2 : Int32)) &&& (3 : Int32))), .unset, .unset, .unset, .unset, .unset] [(.ref b133)]))
      refine own_st (fun _ k => XS.dup X133.here hx rfl (hb hby at_41) rfl rfl k) ?_
      show own_Go p e below s _ _ _ (T133.setTop (mkF m 42 #[.val (.long p1), .second, .val (.long p2), .second, .val (.long p3), .second, .val (.long p4), .second, .val (.int p5), .val (.long p3), .second, .val (.long p2), .second, .val (.int ((XT.ushr p5 (2 : Int32)) &&& (3 : Int32))), .unset, .unset, .unset, .unset, .unset] [(.ref b133), (.ref b133)]))
      refine own_st (fun _ k => XT.lloadN X133.here hx rfl (hb hby at_42) rfl k) ?_
      show own_Go p e below s _ _ _ (T133.setTop (mkF m 43 #[.val (.long p1), .second, .val (.long p2), .second, .val (.long p3), .second, .val (.long p4), .second, .val (.int p5), .val (.long p3), .second, .val (.long p2), .second, .val (.int ((XT.ushr p5 (2 : Int32)) &&& (3 : Int32))), .unset, .unset, .unset, .unset, .unset] [(.long p1), (.ref b133), (.ref b133)]))
      refine own_st (fun _ k => XT.lloadN X133.here hx rfl (hb hby at_43) rfl k) ?_
      show own_Go p e below s _ _ _ (T133.setTop (mkF m 44 #[.val (.long p1), .second, .val (.long p2), .second, .val (.long p3), .second, .val (.long p4), .second, .val (.int p5), .val (.long p3), .second, .val (.long p2), .second, .val (.int ((XT.ushr p5 (2 : Int32)) &&& (3 : Int32))), .unset, .unset, .unset, .unset, .unset] [(.long p2), (.long p1), (.ref b133), (.ref b133)]))
      obtain ⟨_, _, ⟨T138, L138, k138, n138⟩, -, X138, ⟨Lc138, hQ138, l138, y138, z138⟩, st138⟩ := X133.specialBack hx (y := (⟨"com/example/epoch/epoch/protocol/record/AbortedTransaction", "<init>", "(JJ)V"⟩ : MethodName)) rfl hown (mvT hZ (hw _ (List.mem_of_getElem? (i := 3) rfl))) (mvT hZ (hw _ (List.mem_of_getElem? (i := 4) rfl))) (mvT hZ (hw _ (List.mem_of_getElem? (i := 5) rfl))) (by decide) (backOf (W := 1) (own_rm_init l Z a0 hw [] b133 p1 p2 h133 n0 Zs134 A133 F136 F137 g135) hZ (hw _ (List.mem_of_getElem? (i := 5) rfl)) (hw _ (List.mem_of_getElem? (i := 2) rfl)) (by decide) (by decide)) (g := (mkF m 44 #[.val (.long p1), .second, .val (.long p2), .second, .val (.long p3), .second, .val (.long p4), .second, .val (.int p5), .val (.long p3), .second, .val (.long p2), .second, .val (.int ((XT.ushr p5 (2 : Int32)) &&& (3 : Int32))), .unset, .unset, .unset, .unset, .unset] [(.long p2), (.long p1), (.ref b133), (.ref b133)])) rfl (by rw [hml]; rfl) (Steps.refl _) (a := b133) (argsL := [(.long p1), (.long p2)]) (rest := [(.ref b133)]) (lenOf own_pd2 rfl) rfl (by show 2 * 0 + _ ≤ _; exact Nat.le_of_eq rfl) (hb hby at_44) (fun _ _ => ⟨rfl, e133, (by decide : 1 + 0 ≤ _), (by decide : 2 + 0 ≤ _)⟩)
      dsimp only [Pt.U, Pt.locs, Pt.cells, Pt.slots] at X138 l138 y138 z138 st138 hQ138
      subst l138 y138 z138
      obtain ⟨N138q, rfl, K138, q139, q140, q141⟩ := hQ138
      have N142 := Fr.app N0 N138q
      refine own_tr st138 ?_
      have Zs143 : n0 ≤ T138.heap.size := Nat.le_trans Zs134 K138.1
      show own_Go p e below s _ _ _ (T138.setTop (mkF m 47 #[.val (.long p1), .second, .val (.long p2), .second, .val (.long p3), .second, .val (.long p4), .second, .val (.int p5), .val (.long p3), .second, .val (.long p2), .second, .val (.int ((XT.ushr p5 (2 : Int32)) &&& (3 : Int32))), .unset, .unset, .unset, .unset, .unset] [(.ref b133)]))
      refine own_st (fun _ k => XS.astore X138.here hx rfl (hb hby at_47) rfl rfl (l' := #[.val (.long p1), .second, .val (.long p2), .second, .val (.long p3), .second, .val (.long p4), .second, .val (.int p5), .val (.long p3), .second, .val (.long p2), .second, .val (.int ((XT.ushr p5 (2 : Int32)) &&& (3 : Int32))), .val (.ref b133), .unset, .unset, .unset, .unset]) rfl k) ?_
      show own_Go p e below s _ _ _ (T138.setTop (mkF m 49 #[.val (.long p1), .second, .val (.long p2), .second, .val (.long p3), .second, .val (.long p4), .second, .val (.int p5), .val (.long p3), .second, .val (.long p2), .second, .val (.int ((XT.ushr p5 (2 : Int32)) &&& (3 : Int32))), .val (.ref b133), .unset, .unset, .unset, .unset] []))
      refine own_st (fun _ k => XS.iload X138.here hx rfl (hb hby at_49) rfl k) ?_
      show own_Go p e below s _ _ _ (T138.setTop (mkF m 51 #[.val (.long p1), .second, .val (.long p2), .second, .val (.long p3), .second, .val (.long p4), .second, .val (.int p5), .val (.long p3), .second, .val (.long p2), .second, .val (.int ((XT.ushr p5 (2 : Int32)) &&& (3 : Int32))), .val (.ref b133), .unset, .unset, .unset, .unset] [(.int ((XT.ushr p5 (2 : Int32)) &&& (3 : Int32)))]))
      by_cases hc144 : ((XT.ushr p5 (2 : Int32)) &&& (3 : Int32)) = 0
      · refine own_st (fun _ k => XS.ifNo X138.here hx rfl (hb hby at_51) rfl (XT.i0_ne_f hc144) k) ?_
        show own_Go p e below s _ _ _ (T138.setTop (mkF m 54 #[.val (.long p1), .second, .val (.long p2), .second, .val (.long p3), .second, .val (.long p4), .second, .val (.int p5), .val (.long p3), .second, .val (.long p2), .second, .val (.int ((XT.ushr p5 (2 : Int32)) &&& (3 : Int32))), .val (.ref b133), .unset, .unset, .unset, .unset] []))
        obtain ⟨T145, h145, X145, e145, E145, A145, D145, -, st145⟩ := newO X138 hx hZ hown (hw _ (List.mem_of_getElem? (i := 0) rfl)) (hw _ (List.mem_of_getElem? (i := 1) rfl)) (hw _ (List.mem_of_getElem? (i := 2) rfl)) rfl (g := (mkF m 54 #[.val (.long p1), .second, .val (.long p2), .second, .val (.long p3), .second, .val (.long p4), .second, .val (.int p5), .val (.long p3), .second, .val (.long p2), .second, .val (.int ((XT.ushr p5 (2 : Int32)) &&& (3 : Int32))), .val (.ref b133), .unset, .unset, .unset, .unset] [])) rfl (hb hby at_54) (by decide) (by decide)
        obtain ⟨b145, g145⟩ : ∃ z, z = T138.heap.size := ⟨_, rfl⟩
        rw [← g145] at A145 D145 st145
        refine own_st st145 ?_
        have Zs146 : n0 ≤ h145.size := Nat.le_trans Zs143 E145.1
        have g147 : n0 ≤ b145 := Nat.le_trans Zs143 (Nat.le_of_eq g145.symm)
        have F148 : Fld Z h145 b145 "com/example/epoch/epoch/protocol/record/AbortedTransaction" "producerId" "J" (.long (0 : Int64)) := D145 (Or.inr (hw _ (List.mem_of_getElem? (i := 10) rfl))) (ty := .long) (by decide)
        have F149 : Fld Z h145 b145 "com/example/epoch/epoch/protocol/record/AbortedTransaction" "firstOffset" "J" (.long (0 : Int64)) := D145 (Or.inr (hw _ (List.mem_of_getElem? (i := 12) rfl))) (ty := .long) (by decide)
        show own_Go p e below s _ _ _ (T145.setTop (mkF m 57 #[.val (.long p1), .second, .val (.long p2), .second, .val (.long p3), .second, .val (.long p4), .second, .val (.int p5), .val (.long p3), .second, .val (.long p2), .second, .val (.int ((XT.ushr p5 (2 : Int32)) &&& (3 : Int32))), .val (.ref b133), .unset, .unset, .unset, .unset] [(.ref b145)]))
        refine own_st (fun _ k => XS.dup X145.here hx rfl (hb hby at_57) rfl rfl k) ?_
        show own_Go p e below s _ _ _ (T145.setTop (mkF m 58 #[.val (.long p1), .second, .val (.long p2), .second, .val (.long p3), .second, .val (.long p4), .second, .val (.int p5), .val (.long p3), .second, .val (.long p2), .second, .val (.int ((XT.ushr p5 (2 : Int32)) &&& (3 : Int32))), .val (.ref b133), .unset, .unset, .unset, .unset] [(.ref b145), (.ref b145)]))
        refine own_st (fun _ k => XT.lload X145.here hx rfl (hb hby at_58) rfl k) ?_
        show own_Go p e below s _ _ _ (T145.setTop (mkF m 60 #[.val (.long p1), .second, .val (.long p2), .second, .val (.long p3), .second, .val (.long p4), .second, .val (.int p5), .val (.long p3), .second, .val (.long p2), .second, .val (.int ((XT.ushr p5 (2 : Int32)) &&& (3 : Int32))), .val (.ref b133), .unset, .unset, .unset, .unset] [(.long p3), (.ref b145), (.ref b145)]))
        refine own_st (fun _ k => XT.lload X145.here hx rfl (hb hby at_60) rfl k) ?_
        show own_Go p e below s _ _ _ (T145.setTop (mkF m 62 #[.val (.long p1), .second, .val (.long p2), .second, .val (.long p3), .second, .val (.long p4), .second, .val (.int p5), .val (.long p3), .second, .val (.long p2), .second, .val (.int ((XT.ushr p5 (2 : Int32)) &&& (3 : Int32))), .val (.ref b133), .unset, .unset, .unset, .unset] [(.long p2), (.long p3), (.ref b145), (.ref b145)]))
        obtain ⟨_, _, ⟨T150, L150, k150, n150⟩, -, X150, ⟨Lc150, hQ150, l150, y150, z150⟩, st150⟩ := X145.specialBack hx (y := (⟨"com/example/epoch/epoch/protocol/record/AbortedTransaction", "<init>", "(JJ)V"⟩ : MethodName)) rfl hown (mvT hZ (hw _ (List.mem_of_getElem? (i := 3) rfl))) (mvT hZ (hw _ (List.mem_of_getElem? (i := 4) rfl))) (mvT hZ (hw _ (List.mem_of_getElem? (i := 5) rfl))) (by decide) (backOf (W := 1) (own_rm_init l Z a0 hw [] b145 p3 p2 h145 n0 Zs146 A145 F148 F149 g147) hZ (hw _ (List.mem_of_getElem? (i := 5) rfl)) (hw _ (List.mem_of_getElem? (i := 2) rfl)) (by decide) (by decide)) (g := (mkF m 62 #[.val (.long p1), .second, .val (.long p2), .second, .val (.long p3), .second, .val (.long p4), .second, .val (.int p5), .val (.long p3), .second, .val (.long p2), .second, .val (.int ((XT.ushr p5 (2 : Int32)) &&& (3 : Int32))), .val (.ref b133), .unset, .unset, .unset, .unset] [(.long p2), (.long p3), (.ref b145), (.ref b145)])) rfl (by rw [hml]; rfl) (Steps.refl _) (a := b145) (argsL := [(.long p3), (.long p2)]) (rest := [(.ref b145)]) (lenOf own_pd2 rfl) rfl (by show 2 * 0 + _ ≤ _; exact Nat.le_of_eq rfl) (hb hby at_62) (fun _ _ => ⟨rfl, e145, (by decide : 2 + 0 ≤ _), (by decide : 4 + 0 ≤ _)⟩)
        dsimp only [Pt.U, Pt.locs, Pt.cells, Pt.slots] at X150 l150 y150 z150 st150 hQ150
        subst l150 y150 z150
        obtain ⟨N150q, rfl, K150, q151, q152, q153⟩ := hQ150
        have N154 := Fr.app N142 N150q
        refine own_tr st150 ?_
        have Zs155 : n0 ≤ T150.heap.size := Nat.le_trans Zs146 K150.1
        show own_Go p e below s _ _ _ (T150.setTop (mkF m 65 #[.val (.long p1), .second, .val (.long p2), .second, .val (.long p3), .second, .val (.long p4), .second, .val (.int p5), .val (.long p3), .second, .val (.long p2), .second, .val (.int ((XT.ushr p5 (2 : Int32)) &&& (3 : Int32))), .val (.ref b133), .unset, .unset, .unset, .unset] [(.ref b145)]))
        refine own_st (fun _ k => XS.astore X150.here hx rfl (hb hby at_65) rfl rfl (l' := #[.val (.long p1), .second, .val (.long p2), .second, .val (.long p3), .second, .val (.long p4), .second, .val (.int p5), .val (.long p3), .second, .val (.long p2), .second, .val (.int ((XT.ushr p5 (2 : Int32)) &&& (3 : Int32))), .val (.ref b133), .val (.ref b145), .unset, .unset, .unset]) rfl k) ?_
        show own_Go p e below s _ _ _ (T150.setTop (mkF m 67 #[.val (.long p1), .second, .val (.long p2), .second, .val (.long p3), .second, .val (.long p4), .second, .val (.int p5), .val (.long p3), .second, .val (.long p2), .second, .val (.int ((XT.ushr p5 (2 : Int32)) &&& (3 : Int32))), .val (.ref b133), .val (.ref b145), .unset, .unset, .unset] []))
        refine own_st (fun _ k => XT.lloadN X150.here hx rfl (hb hby at_67) rfl k) ?_
        show own_Go p e below s _ _ _ (T150.setTop (mkF m 68 #[.val (.long p1), .second, .val (.long p2), .second, .val (.long p3), .second, .val (.long p4), .second, .val (.int p5), .val (.long p3), .second, .val (.long p2), .second, .val (.int ((XT.ushr p5 (2 : Int32)) &&& (3 : Int32))), .val (.ref b133), .val (.ref b145), .unset, .unset, .unset] [(.long p1)]))
        refine own_st (fun _ k => XT.lload X150.here hx rfl (hb hby at_68) rfl k) ?_
        show own_Go p e below s _ _ _ (T150.setTop (mkF m 70 #[.val (.long p1), .second, .val (.long p2), .second, .val (.long p3), .second, .val (.long p4), .second, .val (.int p5), .val (.long p3), .second, .val (.long p2), .second, .val (.int ((XT.ushr p5 (2 : Int32)) &&& (3 : Int32))), .val (.ref b133), .val (.ref b145), .unset, .unset, .unset] [(.long p3), (.long p1)]))
        refine own_st (fun _ k => XT.lcmp X150.here hx rfl (hb hby at_70) rfl k) ?_
        show own_Go p e below s _ _ _ (T150.setTop (mkF m 71 #[.val (.long p1), .second, .val (.long p2), .second, .val (.long p3), .second, .val (.long p4), .second, .val (.int p5), .val (.long p3), .second, .val (.long p2), .second, .val (.int ((XT.ushr p5 (2 : Int32)) &&& (3 : Int32))), .val (.ref b133), .val (.ref b145), .unset, .unset, .unset] [(.int (XT.cmpL p1 p3))]))
        by_cases hc156 : p1 = p3
        · refine own_st (fun _ k => XS.ifNo X150.here hx rfl (hb hby at_71) rfl (XT.ll_ne_f hc156) k) ?_
          show own_Go p e below s _ _ _ (T150.setTop (mkF m 74 #[.val (.long p1), .second, .val (.long p2), .second, .val (.long p3), .second, .val (.long p4), .second, .val (.int p5), .val (.long p3), .second, .val (.long p2), .second, .val (.int ((XT.ushr p5 (2 : Int32)) &&& (3 : Int32))), .val (.ref b133), .val (.ref b145), .unset, .unset, .unset] []))
          refine own_st (fun _ k => XT.iconstV X150.here hx rfl (1 : Int32) (hb hby at_74) (by decide) k) ?_
          show own_Go p e below s _ _ _ (T150.setTop (mkF m 75 #[.val (.long p1), .second, .val (.long p2), .second, .val (.long p3), .second, .val (.long p4), .second, .val (.int p5), .val (.long p3), .second, .val (.long p2), .second, .val (.int ((XT.ushr p5 (2 : Int32)) &&& (3 : Int32))), .val (.ref b133), .val (.ref b145), .unset, .unset, .unset] [(.int (1 : Int32))]))
          refine own_st (fun _ k => XS.goto X150.here hx rfl (pc0 := 75) (pc' := 79) rfl (hb hby at_75) (by decide) (by decide) k) ?_
          show own_Go p e below s _ _ _ (T150.setTop (mkF m 79 #[.val (.long p1), .second, .val (.long p2), .second, .val (.long p3), .second, .val (.long p4), .second, .val (.int p5), .val (.long p3), .second, .val (.long p2), .second, .val (.int ((XT.ushr p5 (2 : Int32)) &&& (3 : Int32))), .val (.ref b133), .val (.ref b145), .unset, .unset, .unset] [(.int (1 : Int32))]))
          refine own_st (fun _ k => XS.istore X150.here hx rfl (hb hby at_79) rfl (l' := #[.val (.long p1), .second, .val (.long p2), .second, .val (.long p3), .second, .val (.long p4), .second, .val (.int p5), .val (.long p3), .second, .val (.long p2), .second, .val (.int ((XT.ushr p5 (2 : Int32)) &&& (3 : Int32))), .val (.ref b133), .val (.ref b145), .unset, .val (.int (1 : Int32)), .unset]) rfl k) ?_
          show own_Go p e below s _ _ _ (T150.setTop (mkF m 81 #[.val (.long p1), .second, .val (.long p2), .second, .val (.long p3), .second, .val (.long p4), .second, .val (.int p5), .val (.long p3), .second, .val (.long p2), .second, .val (.int ((XT.ushr p5 (2 : Int32)) &&& (3 : Int32))), .val (.ref b133), .val (.ref b145), .unset, .val (.int (1 : Int32)), .unset] []))
          refine own_st (fun _ k => XT.lloadN X150.here hx rfl (hb hby at_81) rfl k) ?_
          show own_Go p e below s _ _ _ (T150.setTop (mkF m 82 #[.val (.long p1), .second, .val (.long p2), .second, .val (.long p3), .second, .val (.long p4), .second, .val (.int p5), .val (.long p3), .second, .val (.long p2), .second, .val (.int ((XT.ushr p5 (2 : Int32)) &&& (3 : Int32))), .val (.ref b133), .val (.ref b145), .unset, .val (.int (1 : Int32)), .unset] [(.long p2)]))
          refine own_st (fun _ k => XT.lload X150.here hx rfl (hb hby at_82) rfl k) ?_
          show own_Go p e below s _ _ _ (T150.setTop (mkF m 84 #[.val (.long p1), .second, .val (.long p2), .second, .val (.long p3), .second, .val (.long p4), .second, .val (.int p5), .val (.long p3), .second, .val (.long p2), .second, .val (.int ((XT.ushr p5 (2 : Int32)) &&& (3 : Int32))), .val (.ref b133), .val (.ref b145), .unset, .val (.int (1 : Int32)), .unset] [(.long p2), (.long p2)]))
          refine own_st (fun _ k => XT.lcmp X150.here hx rfl (hb hby at_84) rfl k) ?_
          show own_Go p e below s _ _ _ (T150.setTop (mkF m 85 #[.val (.long p1), .second, .val (.long p2), .second, .val (.long p3), .second, .val (.long p4), .second, .val (.int p5), .val (.long p3), .second, .val (.long p2), .second, .val (.int ((XT.ushr p5 (2 : Int32)) &&& (3 : Int32))), .val (.ref b133), .val (.ref b145), .unset, .val (.int (1 : Int32)), .unset] [(.int (XT.cmpL p2 p2))]))
          refine own_st (fun _ k => XS.ifNo X150.here hx rfl (hb hby at_85) rfl (XT.ll_ne_f rfl) k) ?_
          show own_Go p e below s _ _ _ (T150.setTop (mkF m 88 #[.val (.long p1), .second, .val (.long p2), .second, .val (.long p3), .second, .val (.long p4), .second, .val (.int p5), .val (.long p3), .second, .val (.long p2), .second, .val (.int ((XT.ushr p5 (2 : Int32)) &&& (3 : Int32))), .val (.ref b133), .val (.ref b145), .unset, .val (.int (1 : Int32)), .unset] []))
          refine own_st (fun _ k => XT.iconstV X150.here hx rfl (1 : Int32) (hb hby at_88) (by decide) k) ?_
          show own_Go p e below s _ _ _ (T150.setTop (mkF m 89 #[.val (.long p1), .second, .val (.long p2), .second, .val (.long p3), .second, .val (.long p4), .second, .val (.int p5), .val (.long p3), .second, .val (.long p2), .second, .val (.int ((XT.ushr p5 (2 : Int32)) &&& (3 : Int32))), .val (.ref b133), .val (.ref b145), .unset, .val (.int (1 : Int32)), .unset] [(.int (1 : Int32))]))
          refine own_st (fun _ k => XS.goto X150.here hx rfl (pc0 := 89) (pc' := 93) rfl (hb hby at_89) (by decide) (by decide) k) ?_
          show own_Go p e below s _ _ _ (T150.setTop (mkF m 93 #[.val (.long p1), .second, .val (.long p2), .second, .val (.long p3), .second, .val (.long p4), .second, .val (.int p5), .val (.long p3), .second, .val (.long p2), .second, .val (.int ((XT.ushr p5 (2 : Int32)) &&& (3 : Int32))), .val (.ref b133), .val (.ref b145), .unset, .val (.int (1 : Int32)), .unset] [(.int (1 : Int32))]))
          refine own_st (fun _ k => XS.istore X150.here hx rfl (hb hby at_93) rfl (l' := #[.val (.long p1), .second, .val (.long p2), .second, .val (.long p3), .second, .val (.long p4), .second, .val (.int p5), .val (.long p3), .second, .val (.long p2), .second, .val (.int ((XT.ushr p5 (2 : Int32)) &&& (3 : Int32))), .val (.ref b133), .val (.ref b145), .unset, .val (.int (1 : Int32)), .val (.int (1 : Int32))]) rfl k) ?_
          show own_Go p e below s _ _ _ (T150.setTop (mkF m 95 #[.val (.long p1), .second, .val (.long p2), .second, .val (.long p3), .second, .val (.long p4), .second, .val (.int p5), .val (.long p3), .second, .val (.long p2), .second, .val (.int ((XT.ushr p5 (2 : Int32)) &&& (3 : Int32))), .val (.ref b133), .val (.ref b145), .unset, .val (.int (1 : Int32)), .val (.int (1 : Int32))] []))
          refine own_st (fun _ k => XS.iload X150.here hx rfl (hb hby at_95) rfl k) ?_
          show own_Go p e below s _ _ _ (T150.setTop (mkF m 97 #[.val (.long p1), .second, .val (.long p2), .second, .val (.long p3), .second, .val (.long p4), .second, .val (.int p5), .val (.long p3), .second, .val (.long p2), .second, .val (.int ((XT.ushr p5 (2 : Int32)) &&& (3 : Int32))), .val (.ref b133), .val (.ref b145), .unset, .val (.int (1 : Int32)), .val (.int (1 : Int32))] [(.int (1 : Int32))]))
          refine own_st (fun _ k => XS.ifNo X150.here hx rfl (hb hby at_97) rfl (XT.i0_eq_f (by decide)) k) ?_
          show own_Go p e below s _ _ _ (T150.setTop (mkF m 100 #[.val (.long p1), .second, .val (.long p2), .second, .val (.long p3), .second, .val (.long p4), .second, .val (.int p5), .val (.long p3), .second, .val (.long p2), .second, .val (.int ((XT.ushr p5 (2 : Int32)) &&& (3 : Int32))), .val (.ref b133), .val (.ref b145), .unset, .val (.int (1 : Int32)), .val (.int (1 : Int32))] []))
          refine own_st (fun _ k => XS.iload X150.here hx rfl (hb hby at_100) rfl k) ?_
          show own_Go p e below s _ _ _ (T150.setTop (mkF m 102 #[.val (.long p1), .second, .val (.long p2), .second, .val (.long p3), .second, .val (.long p4), .second, .val (.int p5), .val (.long p3), .second, .val (.long p2), .second, .val (.int ((XT.ushr p5 (2 : Int32)) &&& (3 : Int32))), .val (.ref b133), .val (.ref b145), .unset, .val (.int (1 : Int32)), .val (.int (1 : Int32))] [(.int (1 : Int32))]))
          refine own_st (fun _ k => XS.ifNo X150.here hx rfl (hb hby at_102) rfl (XT.i0_eq_f (by decide)) k) ?_
          show own_Go p e below s _ _ _ (T150.setTop (mkF m 105 #[.val (.long p1), .second, .val (.long p2), .second, .val (.long p3), .second, .val (.long p4), .second, .val (.int p5), .val (.long p3), .second, .val (.long p2), .second, .val (.int ((XT.ushr p5 (2 : Int32)) &&& (3 : Int32))), .val (.ref b133), .val (.ref b145), .unset, .val (.int (1 : Int32)), .val (.int (1 : Int32))] []))
          refine own_st (fun _ k => XT.iconstV X150.here hx rfl (1 : Int32) (hb hby at_105) (by decide) k) ?_
          show own_Go p e below s _ _ _ (T150.setTop (mkF m 106 #[.val (.long p1), .second, .val (.long p2), .second, .val (.long p3), .second, .val (.long p4), .second, .val (.int p5), .val (.long p3), .second, .val (.long p2), .second, .val (.int ((XT.ushr p5 (2 : Int32)) &&& (3 : Int32))), .val (.ref b133), .val (.ref b145), .unset, .val (.int (1 : Int32)), .val (.int (1 : Int32))] [(.int (1 : Int32))]))
          refine own_st (fun _ k => XS.goto X150.here hx rfl (pc0 := 106) (pc' := 110) rfl (hb hby at_106) (by decide) (by decide) k) ?_
          show own_Go p e below s _ _ _ (T150.setTop (mkF m 110 #[.val (.long p1), .second, .val (.long p2), .second, .val (.long p3), .second, .val (.long p4), .second, .val (.int p5), .val (.long p3), .second, .val (.long p2), .second, .val (.int ((XT.ushr p5 (2 : Int32)) &&& (3 : Int32))), .val (.ref b133), .val (.ref b145), .unset, .val (.int (1 : Int32)), .val (.int (1 : Int32))] [(.int (1 : Int32))]))
          refine own_st (fun _ k => XS.istore X150.here hx rfl (hb hby at_110) rfl (l' := #[.val (.long p1), .second, .val (.long p2), .second, .val (.long p3), .second, .val (.long p4), .second, .val (.int p5), .val (.long p3), .second, .val (.long p2), .second, .val (.int ((XT.ushr p5 (2 : Int32)) &&& (3 : Int32))), .val (.ref b133), .val (.ref b145), .val (.int (1 : Int32)), .val (.int (1 : Int32)), .val (.int (1 : Int32))]) rfl k) ?_
          show own_Go p e below s _ _ _ (T150.setTop (mkF m 112 #[.val (.long p1), .second, .val (.long p2), .second, .val (.long p3), .second, .val (.long p4), .second, .val (.int p5), .val (.long p3), .second, .val (.long p2), .second, .val (.int ((XT.ushr p5 (2 : Int32)) &&& (3 : Int32))), .val (.ref b133), .val (.ref b145), .val (.int (1 : Int32)), .val (.int (1 : Int32)), .val (.int (1 : Int32))] []))
          refine own_st (fun _ k => XS.goto X150.here hx rfl (pc0 := 112) (pc' := 155) rfl (hb hby at_112) (by decide) (by decide) k) ?_
          show own_Go p e below s _ _ _ (T150.setTop (mkF m 155 #[.val (.long p1), .second, .val (.long p2), .second, .val (.long p3), .second, .val (.long p4), .second, .val (.int p5), .val (.long p3), .second, .val (.long p2), .second, .val (.int ((XT.ushr p5 (2 : Int32)) &&& (3 : Int32))), .val (.ref b133), .val (.ref b145), .val (.int (1 : Int32)), .val (.int (1 : Int32)), .val (.int (1 : Int32))] []))
          refine own_st (fun _ k => XS.aload X150.here hx rfl (hb hby at_155) rfl rfl k) ?_
          show own_Go p e below s _ _ _ (T150.setTop (mkF m 157 #[.val (.long p1), .second, .val (.long p2), .second, .val (.long p3), .second, .val (.long p4), .second, .val (.int p5), .val (.long p3), .second, .val (.long p2), .second, .val (.int ((XT.ushr p5 (2 : Int32)) &&& (3 : Int32))), .val (.ref b133), .val (.ref b145), .val (.int (1 : Int32)), .val (.int (1 : Int32)), .val (.int (1 : Int32))] [(.ref b133)]))
          refine own_st (fun _ k => XS.aload X150.here hx rfl (hb hby at_157) rfl rfl k) ?_
          show own_Go p e below s _ _ _ (T150.setTop (mkF m 159 #[.val (.long p1), .second, .val (.long p2), .second, .val (.long p3), .second, .val (.long p4), .second, .val (.int p5), .val (.long p3), .second, .val (.long p2), .second, .val (.int ((XT.ushr p5 (2 : Int32)) &&& (3 : Int32))), .val (.ref b133), .val (.ref b145), .val (.int (1 : Int32)), .val (.int (1 : Int32)), .val (.int (1 : Int32))] [(.ref b145), (.ref b133)]))
          have F158 : Exa Z T150.heap b133 "com/example/epoch/epoch/protocol/record/AbortedTransaction" := ((q139.ext E145).keep K150)
          have ne159 : b133 ≠ b145 := Nat.ne_of_lt (Nat.lt_of_lt_of_le (Nat.lt_of_lt_of_le A133.lt K138.1) (Nat.le_of_eq g145.symm))
          have F160 : Fld Z T150.heap b133 "com/example/epoch/epoch/protocol/record/AbortedTransaction" "producerId" "J" (.long p1) := ((q140.ext E145).keep K150 (ninS ne159 nin0))
          have F161 : Fld Z T150.heap b133 "com/example/epoch/epoch/protocol/record/AbortedTransaction" "firstOffset" "J" (.long p2) := ((q141.ext E145).keep K150 (ninS ne159 nin0))
          obtain ⟨cq157, kq157, q157a, q157b, q157c⟩ := isOf hZ rfl F158
          obtain ⟨_, _, ⟨T157, L157, k157, n157⟩, -, X157, ⟨Lc157, hQ157, l157, y157, z157⟩, st157⟩ := X150.virtualBack hx (y := (⟨"com/example/epoch/epoch/protocol/record/AbortedTransaction", "equals", "(Ljava/lang/Object;)Z"⟩ : MethodName)) (z := (⟨"com/example/epoch/epoch/protocol/record/AbortedTransaction", "equals", "(Ljava/lang/Object;)Z"⟩ : MethodName)) hown (mvT hZ (hw _ (List.mem_of_getElem? (i := 13) rfl))) (mvT hZ (hw _ (List.mem_of_getElem? (i := 14) rfl))) (notFace_of_selects (args := #[]) (mvT hZ (hw _ (List.mem_of_getElem? (i := 16) rfl)))) (mvT hZ (hw _ (List.mem_of_getElem? (i := 16) rfl))) (mvT hZ (hw _ (List.mem_of_getElem? (i := 15) rfl))) (by decide) (backOf (W := 0) (own_rm_eqA l Z a0 hw [] b133 b145 p1 p2 p3 p2 T150.heap n0 Zs155 q151 F160 F161 q152 q153) hZ (hw _ (List.mem_of_getElem? (i := 17) rfl)) (hw _ (List.mem_of_getElem? (i := 2) rfl)) (by decide) (by decide)) q157a q157c (g := (mkF m 159 #[.val (.long p1), .second, .val (.long p2), .second, .val (.long p3), .second, .val (.long p4), .second, .val (.int p5), .val (.long p3), .second, .val (.long p2), .second, .val (.int ((XT.ushr p5 (2 : Int32)) &&& (3 : Int32))), .val (.ref b133), .val (.ref b145), .val (.int (1 : Int32)), .val (.int (1 : Int32)), .val (.int (1 : Int32))] [(.ref b145), (.ref b133)])) rfl (by rw [hml]; rfl) (Steps.refl _) (argsL := [(.ref b145)]) (rest := []) (lenOf own_pd3 rfl) rfl (by show 2 * 0 + _ ≤ _; exact Nat.le_of_eq rfl) (hb hby at_159) (fun _ _ => ⟨rfl, rfl, (by decide : 2 + 0 ≤ _), (by decide : 4 + 0 ≤ _)⟩)
          dsimp only [Pt.U, Pt.locs, Pt.cells, Pt.slots] at X157 l157 y157 z157 st157 hQ157
          subst l157 y157 z157
          obtain ⟨N157q, rfl, eh157⟩ := hQ157
          have N162 := Fr.app N154 N157q
          refine own_tr st157 ?_
          show own_Go p e below s _ _ _ (T157.setTop (mkF m 162 #[.val (.long p1), .second, .val (.long p2), .second, .val (.long p3), .second, .val (.long p4), .second, .val (.int p5), .val (.long p3), .second, .val (.long p2), .second, .val (.int ((XT.ushr p5 (2 : Int32)) &&& (3 : Int32))), .val (.ref b133), .val (.ref b145), .val (.int (1 : Int32)), .val (.int (1 : Int32)), .val (.int (1 : Int32))] [(.int (if p1 = p3 then (if p2 = p2 then (1 : Int32) else 0) else 0))]))
          refine own_st (fun _ k => XS.iload X157.here hx rfl (hb hby at_162) rfl k) ?_
          show own_Go p e below s _ _ _ (T157.setTop (mkF m 164 #[.val (.long p1), .second, .val (.long p2), .second, .val (.long p3), .second, .val (.long p4), .second, .val (.int p5), .val (.long p3), .second, .val (.long p2), .second, .val (.int ((XT.ushr p5 (2 : Int32)) &&& (3 : Int32))), .val (.ref b133), .val (.ref b145), .val (.int (1 : Int32)), .val (.int (1 : Int32)), .val (.int (1 : Int32))] [(.int (1 : Int32)), (.int (if p1 = p3 then (if p2 = p2 then (1 : Int32) else 0) else 0))]))
          refine own_st (fun _ k => XS.icmpNo X157.here hx rfl (hb hby at_164) rfl (XT.ii_ne_f (by simp [hc156])) k) ?_
          show own_Go p e below s _ _ _ (T157.setTop (mkF m 167 #[.val (.long p1), .second, .val (.long p2), .second, .val (.long p3), .second, .val (.long p4), .second, .val (.int p5), .val (.long p3), .second, .val (.long p2), .second, .val (.int ((XT.ushr p5 (2 : Int32)) &&& (3 : Int32))), .val (.ref b133), .val (.ref b145), .val (.int (1 : Int32)), .val (.int (1 : Int32)), .val (.int (1 : Int32))] []))
          refine own_st (fun _ k => XT.iconstV X157.here hx rfl (1 : Int32) (hb hby at_167) (by decide) k) ?_
          show own_Go p e below s _ _ _ (T157.setTop (mkF m 168 #[.val (.long p1), .second, .val (.long p2), .second, .val (.long p3), .second, .val (.long p4), .second, .val (.int p5), .val (.long p3), .second, .val (.long p2), .second, .val (.int ((XT.ushr p5 (2 : Int32)) &&& (3 : Int32))), .val (.ref b133), .val (.ref b145), .val (.int (1 : Int32)), .val (.int (1 : Int32)), .val (.int (1 : Int32))] [(.int (1 : Int32))]))
          refine own_st (fun _ k => XS.goto X157.here hx rfl (pc0 := 168) (pc' := 172) rfl (hb hby at_168) (by decide) (by decide) k) ?_
          show own_Go p e below s _ _ _ (T157.setTop (mkF m 172 #[.val (.long p1), .second, .val (.long p2), .second, .val (.long p3), .second, .val (.long p4), .second, .val (.int p5), .val (.long p3), .second, .val (.long p2), .second, .val (.int ((XT.ushr p5 (2 : Int32)) &&& (3 : Int32))), .val (.ref b133), .val (.ref b145), .val (.int (1 : Int32)), .val (.int (1 : Int32)), .val (.int (1 : Int32))] [(.int (1 : Int32))]))
          refine own_retN X157 hx hlk Bd.returns (t := .boolean) (z' := (1 : Int32)) (by simp) (by decide) (hb hby at_172) (by decide) (by decide) ?_
          rw [eh157]
          exact ⟨N162, rfl⟩
        · refine own_st (fun _ k => XS.ifYes X150.here hx rfl (pc0 := 71) (pc' := 78) rfl (hb hby at_71) rfl (XT.ll_ne_t hc156) (by decide) (by decide) k) ?_
          show own_Go p e below s _ _ _ (T150.setTop (mkF m 78 #[.val (.long p1), .second, .val (.long p2), .second, .val (.long p3), .second, .val (.long p4), .second, .val (.int p5), .val (.long p3), .second, .val (.long p2), .second, .val (.int ((XT.ushr p5 (2 : Int32)) &&& (3 : Int32))), .val (.ref b133), .val (.ref b145), .unset, .unset, .unset] []))
          refine own_st (fun _ k => XT.iconstV X150.here hx rfl (0 : Int32) (hb hby at_78) (by decide) k) ?_
          show own_Go p e below s _ _ _ (T150.setTop (mkF m 79 #[.val (.long p1), .second, .val (.long p2), .second, .val (.long p3), .second, .val (.long p4), .second, .val (.int p5), .val (.long p3), .second, .val (.long p2), .second, .val (.int ((XT.ushr p5 (2 : Int32)) &&& (3 : Int32))), .val (.ref b133), .val (.ref b145), .unset, .unset, .unset] [(.int (0 : Int32))]))
          refine own_st (fun _ k => XS.istore X150.here hx rfl (hb hby at_79) rfl (l' := #[.val (.long p1), .second, .val (.long p2), .second, .val (.long p3), .second, .val (.long p4), .second, .val (.int p5), .val (.long p3), .second, .val (.long p2), .second, .val (.int ((XT.ushr p5 (2 : Int32)) &&& (3 : Int32))), .val (.ref b133), .val (.ref b145), .unset, .val (.int (0 : Int32)), .unset]) rfl k) ?_
          show own_Go p e below s _ _ _ (T150.setTop (mkF m 81 #[.val (.long p1), .second, .val (.long p2), .second, .val (.long p3), .second, .val (.long p4), .second, .val (.int p5), .val (.long p3), .second, .val (.long p2), .second, .val (.int ((XT.ushr p5 (2 : Int32)) &&& (3 : Int32))), .val (.ref b133), .val (.ref b145), .unset, .val (.int (0 : Int32)), .unset] []))
          refine own_st (fun _ k => XT.lloadN X150.here hx rfl (hb hby at_81) rfl k) ?_
          show own_Go p e below s _ _ _ (T150.setTop (mkF m 82 #[.val (.long p1), .second, .val (.long p2), .second, .val (.long p3), .second, .val (.long p4), .second, .val (.int p5), .val (.long p3), .second, .val (.long p2), .second, .val (.int ((XT.ushr p5 (2 : Int32)) &&& (3 : Int32))), .val (.ref b133), .val (.ref b145), .unset, .val (.int (0 : Int32)), .unset] [(.long p2)]))
          refine own_st (fun _ k => XT.lload X150.here hx rfl (hb hby at_82) rfl k) ?_
          show own_Go p e below s _ _ _ (T150.setTop (mkF m 84 #[.val (.long p1), .second, .val (.long p2), .second, .val (.long p3), .second, .val (.long p4), .second, .val (.int p5), .val (.long p3), .second, .val (.long p2), .second, .val (.int ((XT.ushr p5 (2 : Int32)) &&& (3 : Int32))), .val (.ref b133), .val (.ref b145), .unset, .val (.int (0 : Int32)), .unset] [(.long p2), (.long p2)]))
          refine own_st (fun _ k => XT.lcmp X150.here hx rfl (hb hby at_84) rfl k) ?_
          show own_Go p e below s _ _ _ (T150.setTop (mkF m 85 #[.val (.long p1), .second, .val (.long p2), .second, .val (.long p3), .second, .val (.long p4), .second, .val (.int p5), .val (.long p3), .second, .val (.long p2), .second, .val (.int ((XT.ushr p5 (2 : Int32)) &&& (3 : Int32))), .val (.ref b133), .val (.ref b145), .unset, .val (.int (0 : Int32)), .unset] [(.int (XT.cmpL p2 p2))]))
          refine own_st (fun _ k => XS.ifNo X150.here hx rfl (hb hby at_85) rfl (XT.ll_ne_f rfl) k) ?_
          show own_Go p e below s _ _ _ (T150.setTop (mkF m 88 #[.val (.long p1), .second, .val (.long p2), .second, .val (.long p3), .second, .val (.long p4), .second, .val (.int p5), .val (.long p3), .second, .val (.long p2), .second, .val (.int ((XT.ushr p5 (2 : Int32)) &&& (3 : Int32))), .val (.ref b133), .val (.ref b145), .unset, .val (.int (0 : Int32)), .unset] []))
          refine own_st (fun _ k => XT.iconstV X150.here hx rfl (1 : Int32) (hb hby at_88) (by decide) k) ?_
          show own_Go p e below s _ _ _ (T150.setTop (mkF m 89 #[.val (.long p1), .second, .val (.long p2), .second, .val (.long p3), .second, .val (.long p4), .second, .val (.int p5), .val (.long p3), .second, .val (.long p2), .second, .val (.int ((XT.ushr p5 (2 : Int32)) &&& (3 : Int32))), .val (.ref b133), .val (.ref b145), .unset, .val (.int (0 : Int32)), .unset] [(.int (1 : Int32))]))
          refine own_st (fun _ k => XS.goto X150.here hx rfl (pc0 := 89) (pc' := 93) rfl (hb hby at_89) (by decide) (by decide) k) ?_
          show own_Go p e below s _ _ _ (T150.setTop (mkF m 93 #[.val (.long p1), .second, .val (.long p2), .second, .val (.long p3), .second, .val (.long p4), .second, .val (.int p5), .val (.long p3), .second, .val (.long p2), .second, .val (.int ((XT.ushr p5 (2 : Int32)) &&& (3 : Int32))), .val (.ref b133), .val (.ref b145), .unset, .val (.int (0 : Int32)), .unset] [(.int (1 : Int32))]))
          refine own_st (fun _ k => XS.istore X150.here hx rfl (hb hby at_93) rfl (l' := #[.val (.long p1), .second, .val (.long p2), .second, .val (.long p3), .second, .val (.long p4), .second, .val (.int p5), .val (.long p3), .second, .val (.long p2), .second, .val (.int ((XT.ushr p5 (2 : Int32)) &&& (3 : Int32))), .val (.ref b133), .val (.ref b145), .unset, .val (.int (0 : Int32)), .val (.int (1 : Int32))]) rfl k) ?_
          show own_Go p e below s _ _ _ (T150.setTop (mkF m 95 #[.val (.long p1), .second, .val (.long p2), .second, .val (.long p3), .second, .val (.long p4), .second, .val (.int p5), .val (.long p3), .second, .val (.long p2), .second, .val (.int ((XT.ushr p5 (2 : Int32)) &&& (3 : Int32))), .val (.ref b133), .val (.ref b145), .unset, .val (.int (0 : Int32)), .val (.int (1 : Int32))] []))
          refine own_st (fun _ k => XS.iload X150.here hx rfl (hb hby at_95) rfl k) ?_
          show own_Go p e below s _ _ _ (T150.setTop (mkF m 97 #[.val (.long p1), .second, .val (.long p2), .second, .val (.long p3), .second, .val (.long p4), .second, .val (.int p5), .val (.long p3), .second, .val (.long p2), .second, .val (.int ((XT.ushr p5 (2 : Int32)) &&& (3 : Int32))), .val (.ref b133), .val (.ref b145), .unset, .val (.int (0 : Int32)), .val (.int (1 : Int32))] [(.int (0 : Int32))]))
          refine own_st (fun _ k => XS.ifYes X150.here hx rfl (pc0 := 97) (pc' := 109) rfl (hb hby at_97) rfl (XT.i0_eq_t (by decide)) (by decide) (by decide) k) ?_
          show own_Go p e below s _ _ _ (T150.setTop (mkF m 109 #[.val (.long p1), .second, .val (.long p2), .second, .val (.long p3), .second, .val (.long p4), .second, .val (.int p5), .val (.long p3), .second, .val (.long p2), .second, .val (.int ((XT.ushr p5 (2 : Int32)) &&& (3 : Int32))), .val (.ref b133), .val (.ref b145), .unset, .val (.int (0 : Int32)), .val (.int (1 : Int32))] []))
          refine own_st (fun _ k => XT.iconstV X150.here hx rfl (0 : Int32) (hb hby at_109) (by decide) k) ?_
          show own_Go p e below s _ _ _ (T150.setTop (mkF m 110 #[.val (.long p1), .second, .val (.long p2), .second, .val (.long p3), .second, .val (.long p4), .second, .val (.int p5), .val (.long p3), .second, .val (.long p2), .second, .val (.int ((XT.ushr p5 (2 : Int32)) &&& (3 : Int32))), .val (.ref b133), .val (.ref b145), .unset, .val (.int (0 : Int32)), .val (.int (1 : Int32))] [(.int (0 : Int32))]))
          refine own_st (fun _ k => XS.istore X150.here hx rfl (hb hby at_110) rfl (l' := #[.val (.long p1), .second, .val (.long p2), .second, .val (.long p3), .second, .val (.long p4), .second, .val (.int p5), .val (.long p3), .second, .val (.long p2), .second, .val (.int ((XT.ushr p5 (2 : Int32)) &&& (3 : Int32))), .val (.ref b133), .val (.ref b145), .val (.int (0 : Int32)), .val (.int (0 : Int32)), .val (.int (1 : Int32))]) rfl k) ?_
          show own_Go p e below s _ _ _ (T150.setTop (mkF m 112 #[.val (.long p1), .second, .val (.long p2), .second, .val (.long p3), .second, .val (.long p4), .second, .val (.int p5), .val (.long p3), .second, .val (.long p2), .second, .val (.int ((XT.ushr p5 (2 : Int32)) &&& (3 : Int32))), .val (.ref b133), .val (.ref b145), .val (.int (0 : Int32)), .val (.int (0 : Int32)), .val (.int (1 : Int32))] []))
          refine own_st (fun _ k => XS.goto X150.here hx rfl (pc0 := 112) (pc' := 155) rfl (hb hby at_112) (by decide) (by decide) k) ?_
          show own_Go p e below s _ _ _ (T150.setTop (mkF m 155 #[.val (.long p1), .second, .val (.long p2), .second, .val (.long p3), .second, .val (.long p4), .second, .val (.int p5), .val (.long p3), .second, .val (.long p2), .second, .val (.int ((XT.ushr p5 (2 : Int32)) &&& (3 : Int32))), .val (.ref b133), .val (.ref b145), .val (.int (0 : Int32)), .val (.int (0 : Int32)), .val (.int (1 : Int32))] []))
          refine own_st (fun _ k => XS.aload X150.here hx rfl (hb hby at_155) rfl rfl k) ?_
          show own_Go p e below s _ _ _ (T150.setTop (mkF m 157 #[.val (.long p1), .second, .val (.long p2), .second, .val (.long p3), .second, .val (.long p4), .second, .val (.int p5), .val (.long p3), .second, .val (.long p2), .second, .val (.int ((XT.ushr p5 (2 : Int32)) &&& (3 : Int32))), .val (.ref b133), .val (.ref b145), .val (.int (0 : Int32)), .val (.int (0 : Int32)), .val (.int (1 : Int32))] [(.ref b133)]))
          refine own_st (fun _ k => XS.aload X150.here hx rfl (hb hby at_157) rfl rfl k) ?_
          show own_Go p e below s _ _ _ (T150.setTop (mkF m 159 #[.val (.long p1), .second, .val (.long p2), .second, .val (.long p3), .second, .val (.long p4), .second, .val (.int p5), .val (.long p3), .second, .val (.long p2), .second, .val (.int ((XT.ushr p5 (2 : Int32)) &&& (3 : Int32))), .val (.ref b133), .val (.ref b145), .val (.int (0 : Int32)), .val (.int (0 : Int32)), .val (.int (1 : Int32))] [(.ref b145), (.ref b133)]))
          have F164 : Exa Z T150.heap b133 "com/example/epoch/epoch/protocol/record/AbortedTransaction" := ((q139.ext E145).keep K150)
          have ne165 : b133 ≠ b145 := Nat.ne_of_lt (Nat.lt_of_lt_of_le (Nat.lt_of_lt_of_le A133.lt K138.1) (Nat.le_of_eq g145.symm))
          have F166 : Fld Z T150.heap b133 "com/example/epoch/epoch/protocol/record/AbortedTransaction" "producerId" "J" (.long p1) := ((q140.ext E145).keep K150 (ninS ne165 nin0))
          have F167 : Fld Z T150.heap b133 "com/example/epoch/epoch/protocol/record/AbortedTransaction" "firstOffset" "J" (.long p2) := ((q141.ext E145).keep K150 (ninS ne165 nin0))
          obtain ⟨cq163, kq163, q163a, q163b, q163c⟩ := isOf hZ rfl F164
          obtain ⟨_, _, ⟨T163, L163, k163, n163⟩, -, X163, ⟨Lc163, hQ163, l163, y163, z163⟩, st163⟩ := X150.virtualBack hx (y := (⟨"com/example/epoch/epoch/protocol/record/AbortedTransaction", "equals", "(Ljava/lang/Object;)Z"⟩ : MethodName)) (z := (⟨"com/example/epoch/epoch/protocol/record/AbortedTransaction", "equals", "(Ljava/lang/Object;)Z"⟩ : MethodName)) hown (mvT hZ (hw _ (List.mem_of_getElem? (i := 13) rfl))) (mvT hZ (hw _ (List.mem_of_getElem? (i := 14) rfl))) (notFace_of_selects (args := #[]) (mvT hZ (hw _ (List.mem_of_getElem? (i := 16) rfl)))) (mvT hZ (hw _ (List.mem_of_getElem? (i := 16) rfl))) (mvT hZ (hw _ (List.mem_of_getElem? (i := 15) rfl))) (by decide) (backOf (W := 0) (own_rm_eqA l Z a0 hw [] b133 b145 p1 p2 p3 p2 T150.heap n0 Zs155 q151 F166 F167 q152 q153) hZ (hw _ (List.mem_of_getElem? (i := 17) rfl)) (hw _ (List.mem_of_getElem? (i := 2) rfl)) (by decide) (by decide)) q163a q163c (g := (mkF m 159 #[.val (.long p1), .second, .val (.long p2), .second, .val (.long p3), .second, .val (.long p4), .second, .val (.int p5), .val (.long p3), .second, .val (.long p2), .second, .val (.int ((XT.ushr p5 (2 : Int32)) &&& (3 : Int32))), .val (.ref b133), .val (.ref b145), .val (.int (0 : Int32)), .val (.int (0 : Int32)), .val (.int (1 : Int32))] [(.ref b145), (.ref b133)])) rfl (by rw [hml]; rfl) (Steps.refl _) (argsL := [(.ref b145)]) (rest := []) (lenOf own_pd3 rfl) rfl (by show 2 * 0 + _ ≤ _; exact Nat.le_of_eq rfl) (hb hby at_159) (fun _ _ => ⟨rfl, rfl, (by decide : 2 + 0 ≤ _), (by decide : 4 + 0 ≤ _)⟩)
          dsimp only [Pt.U, Pt.locs, Pt.cells, Pt.slots] at X163 l163 y163 z163 st163 hQ163
          subst l163 y163 z163
          obtain ⟨N163q, rfl, eh163⟩ := hQ163
          have N168 := Fr.app N154 N163q
          refine own_tr st163 ?_
          show own_Go p e below s _ _ _ (T163.setTop (mkF m 162 #[.val (.long p1), .second, .val (.long p2), .second, .val (.long p3), .second, .val (.long p4), .second, .val (.int p5), .val (.long p3), .second, .val (.long p2), .second, .val (.int ((XT.ushr p5 (2 : Int32)) &&& (3 : Int32))), .val (.ref b133), .val (.ref b145), .val (.int (0 : Int32)), .val (.int (0 : Int32)), .val (.int (1 : Int32))] [(.int (if p1 = p3 then (if p2 = p2 then (1 : Int32) else 0) else 0))]))
          refine own_st (fun _ k => XS.iload X163.here hx rfl (hb hby at_162) rfl k) ?_
          show own_Go p e below s _ _ _ (T163.setTop (mkF m 164 #[.val (.long p1), .second, .val (.long p2), .second, .val (.long p3), .second, .val (.long p4), .second, .val (.int p5), .val (.long p3), .second, .val (.long p2), .second, .val (.int ((XT.ushr p5 (2 : Int32)) &&& (3 : Int32))), .val (.ref b133), .val (.ref b145), .val (.int (0 : Int32)), .val (.int (0 : Int32)), .val (.int (1 : Int32))] [(.int (0 : Int32)), (.int (if p1 = p3 then (if p2 = p2 then (1 : Int32) else 0) else 0))]))
          refine own_st (fun _ k => XS.icmpNo X163.here hx rfl (hb hby at_164) rfl (XT.ii_ne_f (by simp [hc156])) k) ?_
          show own_Go p e below s _ _ _ (T163.setTop (mkF m 167 #[.val (.long p1), .second, .val (.long p2), .second, .val (.long p3), .second, .val (.long p4), .second, .val (.int p5), .val (.long p3), .second, .val (.long p2), .second, .val (.int ((XT.ushr p5 (2 : Int32)) &&& (3 : Int32))), .val (.ref b133), .val (.ref b145), .val (.int (0 : Int32)), .val (.int (0 : Int32)), .val (.int (1 : Int32))] []))
          refine own_st (fun _ k => XT.iconstV X163.here hx rfl (1 : Int32) (hb hby at_167) (by decide) k) ?_
          show own_Go p e below s _ _ _ (T163.setTop (mkF m 168 #[.val (.long p1), .second, .val (.long p2), .second, .val (.long p3), .second, .val (.long p4), .second, .val (.int p5), .val (.long p3), .second, .val (.long p2), .second, .val (.int ((XT.ushr p5 (2 : Int32)) &&& (3 : Int32))), .val (.ref b133), .val (.ref b145), .val (.int (0 : Int32)), .val (.int (0 : Int32)), .val (.int (1 : Int32))] [(.int (1 : Int32))]))
          refine own_st (fun _ k => XS.goto X163.here hx rfl (pc0 := 168) (pc' := 172) rfl (hb hby at_168) (by decide) (by decide) k) ?_
          show own_Go p e below s _ _ _ (T163.setTop (mkF m 172 #[.val (.long p1), .second, .val (.long p2), .second, .val (.long p3), .second, .val (.long p4), .second, .val (.int p5), .val (.long p3), .second, .val (.long p2), .second, .val (.int ((XT.ushr p5 (2 : Int32)) &&& (3 : Int32))), .val (.ref b133), .val (.ref b145), .val (.int (0 : Int32)), .val (.int (0 : Int32)), .val (.int (1 : Int32))] [(.int (1 : Int32))]))
          refine own_retN X163 hx hlk Bd.returns (t := .boolean) (z' := (1 : Int32)) (by simp) (by decide) (hb hby at_172) (by decide) (by decide) ?_
          rw [eh163]
          exact ⟨N168, rfl⟩
      · refine own_st (fun _ k => XS.ifYes X138.here hx rfl (pc0 := 51) (pc' := 115) rfl (hb hby at_51) rfl (XT.i0_ne_t hc144) (by decide) (by decide) k) ?_
        show own_Go p e below s _ _ _ (T138.setTop (mkF m 115 #[.val (.long p1), .second, .val (.long p2), .second, .val (.long p3), .second, .val (.long p4), .second, .val (.int p5), .val (.long p3), .second, .val (.long p2), .second, .val (.int ((XT.ushr p5 (2 : Int32)) &&& (3 : Int32))), .val (.ref b133), .unset, .unset, .unset, .unset] []))
        refine own_st (fun _ k => XS.iload X138.here hx rfl (hb hby at_115) rfl k) ?_
        show own_Go p e below s _ _ _ (T138.setTop (mkF m 117 #[.val (.long p1), .second, .val (.long p2), .second, .val (.long p3), .second, .val (.long p4), .second, .val (.int p5), .val (.long p3), .second, .val (.long p2), .second, .val (.int ((XT.ushr p5 (2 : Int32)) &&& (3 : Int32))), .val (.ref b133), .unset, .unset, .unset, .unset] [(.int ((XT.ushr p5 (2 : Int32)) &&& (3 : Int32)))]))
        refine own_st (fun _ k => XT.iconstV X138.here hx rfl (1 : Int32) (hb hby at_117) (by decide) k) ?_
        show own_Go p e below s _ _ _ (T138.setTop (mkF m 118 #[.val (.long p1), .second, .val (.long p2), .second, .val (.long p3), .second, .val (.long p4), .second, .val (.int p5), .val (.long p3), .second, .val (.long p2), .second, .val (.int ((XT.ushr p5 (2 : Int32)) &&& (3 : Int32))), .val (.ref b133), .unset, .unset, .unset, .unset] [(.int (1 : Int32)), (.int ((XT.ushr p5 (2 : Int32)) &&& (3 : Int32)))]))
        by_cases hc169 : ((XT.ushr p5 (2 : Int32)) &&& (3 : Int32)) = (1 : Int32)
        · refine own_st (fun _ k => XS.icmpNo X138.here hx rfl (hb hby at_118) rfl (XT.ii_ne_f hc169) k) ?_
          show own_Go p e below s _ _ _ (T138.setTop (mkF m 121 #[.val (.long p1), .second, .val (.long p2), .second, .val (.long p3), .second, .val (.long p4), .second, .val (.int p5), .val (.long p3), .second, .val (.long p2), .second, .val (.int ((XT.ushr p5 (2 : Int32)) &&& (3 : Int32))), .val (.ref b133), .unset, .unset, .unset, .unset] []))
          refine own_st (fun _ k => XS.aconstNull X138.here hx rfl (hb hby at_121) k) ?_
          show own_Go p e below s _ _ _ (T138.setTop (mkF m 122 #[.val (.long p1), .second, .val (.long p2), .second, .val (.long p3), .second, .val (.long p4), .second, .val (.int p5), .val (.long p3), .second, .val (.long p2), .second, .val (.int ((XT.ushr p5 (2 : Int32)) &&& (3 : Int32))), .val (.ref b133), .unset, .unset, .unset, .unset] [.null]))
          refine own_st (fun _ k => XS.astore X138.here hx rfl (hb hby at_122) rfl rfl (l' := #[.val (.long p1), .second, .val (.long p2), .second, .val (.long p3), .second, .val (.long p4), .second, .val (.int p5), .val (.long p3), .second, .val (.long p2), .second, .val (.int ((XT.ushr p5 (2 : Int32)) &&& (3 : Int32))), .val (.ref b133), .val .null, .unset, .unset, .unset]) rfl k) ?_
          show own_Go p e below s _ _ _ (T138.setTop (mkF m 124 #[.val (.long p1), .second, .val (.long p2), .second, .val (.long p3), .second, .val (.long p4), .second, .val (.int p5), .val (.long p3), .second, .val (.long p2), .second, .val (.int ((XT.ushr p5 (2 : Int32)) &&& (3 : Int32))), .val (.ref b133), .val .null, .unset, .unset, .unset] []))
          refine own_st (fun _ k => XT.iconstV X138.here hx rfl (0 : Int32) (hb hby at_124) (by decide) k) ?_
          show own_Go p e below s _ _ _ (T138.setTop (mkF m 125 #[.val (.long p1), .second, .val (.long p2), .second, .val (.long p3), .second, .val (.long p4), .second, .val (.int p5), .val (.long p3), .second, .val (.long p2), .second, .val (.int ((XT.ushr p5 (2 : Int32)) &&& (3 : Int32))), .val (.ref b133), .val .null, .unset, .unset, .unset] [(.int (0 : Int32))]))
          refine own_st (fun _ k => XS.istore X138.here hx rfl (hb hby at_125) rfl (l' := #[.val (.long p1), .second, .val (.long p2), .second, .val (.long p3), .second, .val (.long p4), .second, .val (.int p5), .val (.long p3), .second, .val (.long p2), .second, .val (.int ((XT.ushr p5 (2 : Int32)) &&& (3 : Int32))), .val (.ref b133), .val .null, .val (.int (0 : Int32)), .unset, .unset]) rfl k) ?_
          show own_Go p e below s _ _ _ (T138.setTop (mkF m 127 #[.val (.long p1), .second, .val (.long p2), .second, .val (.long p3), .second, .val (.long p4), .second, .val (.int p5), .val (.long p3), .second, .val (.long p2), .second, .val (.int ((XT.ushr p5 (2 : Int32)) &&& (3 : Int32))), .val (.ref b133), .val .null, .val (.int (0 : Int32)), .unset, .unset] []))
          refine own_st (fun _ k => XS.goto X138.here hx rfl (pc0 := 127) (pc' := 155) rfl (hb hby at_127) (by decide) (by decide) k) ?_
          show own_Go p e below s _ _ _ (T138.setTop (mkF m 155 #[.val (.long p1), .second, .val (.long p2), .second, .val (.long p3), .second, .val (.long p4), .second, .val (.int p5), .val (.long p3), .second, .val (.long p2), .second, .val (.int ((XT.ushr p5 (2 : Int32)) &&& (3 : Int32))), .val (.ref b133), .val .null, .val (.int (0 : Int32)), .unset, .unset] []))
          refine own_st (fun _ k => XS.aload X138.here hx rfl (hb hby at_155) rfl rfl k) ?_
          show own_Go p e below s _ _ _ (T138.setTop (mkF m 157 #[.val (.long p1), .second, .val (.long p2), .second, .val (.long p3), .second, .val (.long p4), .second, .val (.int p5), .val (.long p3), .second, .val (.long p2), .second, .val (.int ((XT.ushr p5 (2 : Int32)) &&& (3 : Int32))), .val (.ref b133), .val .null, .val (.int (0 : Int32)), .unset, .unset] [(.ref b133)]))
          refine own_st (fun _ k => XS.aload X138.here hx rfl (hb hby at_157) rfl rfl k) ?_
          show own_Go p e below s _ _ _ (T138.setTop (mkF m 159 #[.val (.long p1), .second, .val (.long p2), .second, .val (.long p3), .second, .val (.long p4), .second, .val (.int p5), .val (.long p3), .second, .val (.long p2), .second, .val (.int ((XT.ushr p5 (2 : Int32)) &&& (3 : Int32))), .val (.ref b133), .val .null, .val (.int (0 : Int32)), .unset, .unset] [.null, (.ref b133)]))
          obtain ⟨cq170, kq170, q170a, q170b, q170c⟩ := isOf hZ rfl q139
          obtain ⟨_, _, ⟨T170, L170, k170, n170⟩, -, X170, ⟨Lc170, hQ170, l170, y170, z170⟩, st170⟩ := X138.virtualBack hx (y := (⟨"com/example/epoch/epoch/protocol/record/AbortedTransaction", "equals", "(Ljava/lang/Object;)Z"⟩ : MethodName)) (z := (⟨"com/example/epoch/epoch/protocol/record/AbortedTransaction", "equals", "(Ljava/lang/Object;)Z"⟩ : MethodName)) hown (mvT hZ (hw _ (List.mem_of_getElem? (i := 13) rfl))) (mvT hZ (hw _ (List.mem_of_getElem? (i := 14) rfl))) (notFace_of_selects (args := #[]) (mvT hZ (hw _ (List.mem_of_getElem? (i := 16) rfl)))) (mvT hZ (hw _ (List.mem_of_getElem? (i := 16) rfl))) (mvT hZ (hw _ (List.mem_of_getElem? (i := 15) rfl))) (by decide) (backOf (W := 0) (own_rm_eqN l Z a0 hw [] b133 T138.heap n0 Zs143 ) hZ (hw _ (List.mem_of_getElem? (i := 17) rfl)) (hw _ (List.mem_of_getElem? (i := 2) rfl)) (by decide) (by decide)) q170a q170c (g := (mkF m 159 #[.val (.long p1), .second, .val (.long p2), .second, .val (.long p3), .second, .val (.long p4), .second, .val (.int p5), .val (.long p3), .second, .val (.long p2), .second, .val (.int ((XT.ushr p5 (2 : Int32)) &&& (3 : Int32))), .val (.ref b133), .val .null, .val (.int (0 : Int32)), .unset, .unset] [.null, (.ref b133)])) rfl (by rw [hml]; rfl) (Steps.refl _) (argsL := [.null]) (rest := []) (lenOf own_pd3 rfl) rfl (by show 2 * 0 + _ ≤ _; exact Nat.le_of_eq rfl) (hb hby at_159) (fun _ _ => ⟨rfl, rfl, (by decide : 1 + 0 ≤ _), (by decide : 2 + 0 ≤ _)⟩)
          dsimp only [Pt.U, Pt.locs, Pt.cells, Pt.slots] at X170 l170 y170 z170 st170 hQ170
          subst l170 y170 z170
          obtain ⟨N170q, rfl, eh170⟩ := hQ170
          have N171 := Fr.app N142 N170q
          refine own_tr st170 ?_
          show own_Go p e below s _ _ _ (T170.setTop (mkF m 162 #[.val (.long p1), .second, .val (.long p2), .second, .val (.long p3), .second, .val (.long p4), .second, .val (.int p5), .val (.long p3), .second, .val (.long p2), .second, .val (.int ((XT.ushr p5 (2 : Int32)) &&& (3 : Int32))), .val (.ref b133), .val .null, .val (.int (0 : Int32)), .unset, .unset] [(.int (0 : Int32))]))
          refine own_st (fun _ k => XS.iload X170.here hx rfl (hb hby at_162) rfl k) ?_
          show own_Go p e below s _ _ _ (T170.setTop (mkF m 164 #[.val (.long p1), .second, .val (.long p2), .second, .val (.long p3), .second, .val (.long p4), .second, .val (.int p5), .val (.long p3), .second, .val (.long p2), .second, .val (.int ((XT.ushr p5 (2 : Int32)) &&& (3 : Int32))), .val (.ref b133), .val .null, .val (.int (0 : Int32)), .unset, .unset] [(.int (0 : Int32)), (.int (0 : Int32))]))
          refine own_st (fun _ k => XS.icmpNo X170.here hx rfl (hb hby at_164) rfl (XT.ii_ne_f rfl) k) ?_
          show own_Go p e below s _ _ _ (T170.setTop (mkF m 167 #[.val (.long p1), .second, .val (.long p2), .second, .val (.long p3), .second, .val (.long p4), .second, .val (.int p5), .val (.long p3), .second, .val (.long p2), .second, .val (.int ((XT.ushr p5 (2 : Int32)) &&& (3 : Int32))), .val (.ref b133), .val .null, .val (.int (0 : Int32)), .unset, .unset] []))
          refine own_st (fun _ k => XT.iconstV X170.here hx rfl (1 : Int32) (hb hby at_167) (by decide) k) ?_
          show own_Go p e below s _ _ _ (T170.setTop (mkF m 168 #[.val (.long p1), .second, .val (.long p2), .second, .val (.long p3), .second, .val (.long p4), .second, .val (.int p5), .val (.long p3), .second, .val (.long p2), .second, .val (.int ((XT.ushr p5 (2 : Int32)) &&& (3 : Int32))), .val (.ref b133), .val .null, .val (.int (0 : Int32)), .unset, .unset] [(.int (1 : Int32))]))
          refine own_st (fun _ k => XS.goto X170.here hx rfl (pc0 := 168) (pc' := 172) rfl (hb hby at_168) (by decide) (by decide) k) ?_
          show own_Go p e below s _ _ _ (T170.setTop (mkF m 172 #[.val (.long p1), .second, .val (.long p2), .second, .val (.long p3), .second, .val (.long p4), .second, .val (.int p5), .val (.long p3), .second, .val (.long p2), .second, .val (.int ((XT.ushr p5 (2 : Int32)) &&& (3 : Int32))), .val (.ref b133), .val .null, .val (.int (0 : Int32)), .unset, .unset] [(.int (1 : Int32))]))
          refine own_retN X170 hx hlk Bd.returns (t := .boolean) (z' := (1 : Int32)) (by simp) (by decide) (hb hby at_172) (by decide) (by decide) ?_
          rw [eh170]
          exact ⟨N171, rfl⟩
        · refine own_st (fun _ k => XS.icmpYes X138.here hx rfl (pc0 := 118) (pc' := 130) rfl (hb hby at_118) rfl (XT.ii_ne_t hc169) (by decide) (by decide) k) ?_
          show own_Go p e below s _ _ _ (T138.setTop (mkF m 130 #[.val (.long p1), .second, .val (.long p2), .second, .val (.long p3), .second, .val (.long p4), .second, .val (.int p5), .val (.long p3), .second, .val (.long p2), .second, .val (.int ((XT.ushr p5 (2 : Int32)) &&& (3 : Int32))), .val (.ref b133), .unset, .unset, .unset, .unset] []))
          refine own_st (fun _ k => XS.iload X138.here hx rfl (hb hby at_130) rfl k) ?_
          show own_Go p e below s _ _ _ (T138.setTop (mkF m 132 #[.val (.long p1), .second, .val (.long p2), .second, .val (.long p3), .second, .val (.long p4), .second, .val (.int p5), .val (.long p3), .second, .val (.long p2), .second, .val (.int ((XT.ushr p5 (2 : Int32)) &&& (3 : Int32))), .val (.ref b133), .unset, .unset, .unset, .unset] [(.int ((XT.ushr p5 (2 : Int32)) &&& (3 : Int32)))]))
          refine own_st (fun _ k => XT.iconstV X138.here hx rfl (2 : Int32) (hb hby at_132) (by decide) k) ?_
          show own_Go p e below s _ _ _ (T138.setTop (mkF m 133 #[.val (.long p1), .second, .val (.long p2), .second, .val (.long p3), .second, .val (.long p4), .second, .val (.int p5), .val (.long p3), .second, .val (.long p2), .second, .val (.int ((XT.ushr p5 (2 : Int32)) &&& (3 : Int32))), .val (.ref b133), .unset, .unset, .unset, .unset] [(.int (2 : Int32)), (.int ((XT.ushr p5 (2 : Int32)) &&& (3 : Int32)))]))
          by_cases hc172 : ((XT.ushr p5 (2 : Int32)) &&& (3 : Int32)) = (2 : Int32)
          · refine own_st (fun _ k => XS.icmpNo X138.here hx rfl (hb hby at_133) rfl (XT.ii_ne_f hc172) k) ?_
            show own_Go p e below s _ _ _ (T138.setTop (mkF m 136 #[.val (.long p1), .second, .val (.long p2), .second, .val (.long p3), .second, .val (.long p4), .second, .val (.int p5), .val (.long p3), .second, .val (.long p2), .second, .val (.int ((XT.ushr p5 (2 : Int32)) &&& (3 : Int32))), .val (.ref b133), .unset, .unset, .unset, .unset] []))
            refine own_st (fun _ k => XT.lloadN X138.here hx rfl (hb hby at_136) rfl k) ?_
            show own_Go p e below s _ _ _ (T138.setTop (mkF m 137 #[.val (.long p1), .second, .val (.long p2), .second, .val (.long p3), .second, .val (.long p4), .second, .val (.int p5), .val (.long p3), .second, .val (.long p2), .second, .val (.int ((XT.ushr p5 (2 : Int32)) &&& (3 : Int32))), .val (.ref b133), .unset, .unset, .unset, .unset] [(.long p1)]))
            have O174 : Old Z n0 T138.heap := ((O0.ext E133).keep K138 (allS g135 all0))
            obtain ⟨_, _, ⟨T173, L173, k173, n173⟩, -, X173, ⟨Lc173, hQ173, l173, y173, z173⟩, st173⟩ := Jvm.LawKit.callS X138 hx (y := (⟨"java/lang/Long", "valueOf", "(J)Ljava/lang/Long;"⟩ : MethodName)) hown (mvT hZ (hw _ (List.mem_of_getElem? (i := 20) rfl))) (mvT hZ (hw _ (List.mem_of_getElem? (i := 21) rfl))) (mvT hZ (hw _ (List.mem_of_getElem? (i := 22) rfl))) (mvT hZ (hw _ (List.mem_of_getElem? (i := 23) rfl))) (by decide) (backOf (W := 0) (own_rm_valueOfJ l Z a0 hw [] p1 a_cacheJ T138.heap n0 Zs143 O174 S_cacheJ BxJ) hZ (hw _ (List.mem_of_getElem? (i := 23) rfl)) (hw _ (List.mem_of_getElem? (i := 22) rfl)) (by decide) (by decide)) (g := (mkF m 137 #[.val (.long p1), .second, .val (.long p2), .second, .val (.long p3), .second, .val (.long p4), .second, .val (.int p5), .val (.long p3), .second, .val (.long p2), .second, .val (.int ((XT.ushr p5 (2 : Int32)) &&& (3 : Int32))), .val (.ref b133), .unset, .unset, .unset, .unset] [(.long p1)])) rfl (by rw [hml]; rfl) (argsL := [(.long p1)]) (rest := []) (lenOf own_pd4 rfl) rfl (by show 2 * 0 + _ ≤ _; exact Nat.le_of_eq rfl) (hb hby at_137) (fun _ _ => ⟨rfl, rfl, (by decide : 1 + 1 ≤ _), (by decide : 2 + 1 ≤ _)⟩)
            dsimp only [Pt.U, Pt.locs, Pt.cells, Pt.slots] at X173 l173 y173 z173 st173 hQ173
            subst l173 y173 z173
            obtain ⟨x175, N173q, rfl, K173, q176, q177⟩ := hQ173
            have N178 := Fr.app N142 N173q
            refine own_st st173 ?_
            have Zs179 : n0 ≤ T173.heap.size := Nat.le_trans Zs143 K173.1
            show own_Go p e below s _ _ _ (T173.setTop (mkF m 140 #[.val (.long p1), .second, .val (.long p2), .second, .val (.long p3), .second, .val (.long p4), .second, .val (.int p5), .val (.long p3), .second, .val (.long p2), .second, .val (.int ((XT.ushr p5 (2 : Int32)) &&& (3 : Int32))), .val (.ref b133), .unset, .unset, .unset, .unset] [(.ref x175)]))
            refine own_st (fun _ k => XS.astore X173.here hx rfl (hb hby at_140) rfl rfl (l' := #[.val (.long p1), .second, .val (.long p2), .second, .val (.long p3), .second, .val (.long p4), .second, .val (.int p5), .val (.long p3), .second, .val (.long p2), .second, .val (.int ((XT.ushr p5 (2 : Int32)) &&& (3 : Int32))), .val (.ref b133), .val (.ref x175), .unset, .unset, .unset]) rfl k) ?_
            show own_Go p e below s _ _ _ (T173.setTop (mkF m 142 #[.val (.long p1), .second, .val (.long p2), .second, .val (.long p3), .second, .val (.long p4), .second, .val (.int p5), .val (.long p3), .second, .val (.long p2), .second, .val (.int ((XT.ushr p5 (2 : Int32)) &&& (3 : Int32))), .val (.ref b133), .val (.ref x175), .unset, .unset, .unset] []))
            refine own_st (fun _ k => XT.iconstV X173.here hx rfl (0 : Int32) (hb hby at_142) (by decide) k) ?_
            show own_Go p e below s _ _ _ (T173.setTop (mkF m 143 #[.val (.long p1), .second, .val (.long p2), .second, .val (.long p3), .second, .val (.long p4), .second, .val (.int p5), .val (.long p3), .second, .val (.long p2), .second, .val (.int ((XT.ushr p5 (2 : Int32)) &&& (3 : Int32))), .val (.ref b133), .val (.ref x175), .unset, .unset, .unset] [(.int (0 : Int32))]))
            refine own_st (fun _ k => XS.istore X173.here hx rfl (hb hby at_143) rfl (l' := #[.val (.long p1), .second, .val (.long p2), .second, .val (.long p3), .second, .val (.long p4), .second, .val (.int p5), .val (.long p3), .second, .val (.long p2), .second, .val (.int ((XT.ushr p5 (2 : Int32)) &&& (3 : Int32))), .val (.ref b133), .val (.ref x175), .val (.int (0 : Int32)), .unset, .unset]) rfl k) ?_
            show own_Go p e below s _ _ _ (T173.setTop (mkF m 145 #[.val (.long p1), .second, .val (.long p2), .second, .val (.long p3), .second, .val (.long p4), .second, .val (.int p5), .val (.long p3), .second, .val (.long p2), .second, .val (.int ((XT.ushr p5 (2 : Int32)) &&& (3 : Int32))), .val (.ref b133), .val (.ref x175), .val (.int (0 : Int32)), .unset, .unset] []))
            refine own_st (fun _ k => XS.goto X173.here hx rfl (pc0 := 145) (pc' := 155) rfl (hb hby at_145) (by decide) (by decide) k) ?_
            show own_Go p e below s _ _ _ (T173.setTop (mkF m 155 #[.val (.long p1), .second, .val (.long p2), .second, .val (.long p3), .second, .val (.long p4), .second, .val (.int p5), .val (.long p3), .second, .val (.long p2), .second, .val (.int ((XT.ushr p5 (2 : Int32)) &&& (3 : Int32))), .val (.ref b133), .val (.ref x175), .val (.int (0 : Int32)), .unset, .unset] []))
            refine own_st (fun _ k => XS.aload X173.here hx rfl (hb hby at_155) rfl rfl k) ?_
            show own_Go p e below s _ _ _ (T173.setTop (mkF m 157 #[.val (.long p1), .second, .val (.long p2), .second, .val (.long p3), .second, .val (.long p4), .second, .val (.int p5), .val (.long p3), .second, .val (.long p2), .second, .val (.int ((XT.ushr p5 (2 : Int32)) &&& (3 : Int32))), .val (.ref b133), .val (.ref x175), .val (.int (0 : Int32)), .unset, .unset] [(.ref b133)]))
            refine own_st (fun _ k => XS.aload X173.here hx rfl (hb hby at_157) rfl rfl k) ?_
            show own_Go p e below s _ _ _ (T173.setTop (mkF m 159 #[.val (.long p1), .second, .val (.long p2), .second, .val (.long p3), .second, .val (.long p4), .second, .val (.int p5), .val (.long p3), .second, .val (.long p2), .second, .val (.int ((XT.ushr p5 (2 : Int32)) &&& (3 : Int32))), .val (.ref b133), .val (.ref x175), .val (.int (0 : Int32)), .unset, .unset] [(.ref x175), (.ref b133)]))
            have F181 : Exa Z T173.heap b133 "com/example/epoch/epoch/protocol/record/AbortedTransaction" := (q139.keep K173)
            obtain ⟨cq180, kq180, q180a, q180b, q180c⟩ := isOf hZ rfl F181
            obtain ⟨_, _, ⟨T180, L180, k180, n180⟩, -, X180, ⟨Lc180, hQ180, l180, y180, z180⟩, st180⟩ := X173.virtualBack hx (y := (⟨"com/example/epoch/epoch/protocol/record/AbortedTransaction", "equals", "(Ljava/lang/Object;)Z"⟩ : MethodName)) (z := (⟨"com/example/epoch/epoch/protocol/record/AbortedTransaction", "equals", "(Ljava/lang/Object;)Z"⟩ : MethodName)) hown (mvT hZ (hw _ (List.mem_of_getElem? (i := 13) rfl))) (mvT hZ (hw _ (List.mem_of_getElem? (i := 14) rfl))) (notFace_of_selects (args := #[]) (mvT hZ (hw _ (List.mem_of_getElem? (i := 16) rfl)))) (mvT hZ (hw _ (List.mem_of_getElem? (i := 16) rfl))) (mvT hZ (hw _ (List.mem_of_getElem? (i := 15) rfl))) (by decide) (backOf (W := 0) (own_rm_eqL l Z a0 hw [] b133 x175 T173.heap n0 Zs179 q176) hZ (hw _ (List.mem_of_getElem? (i := 17) rfl)) (hw _ (List.mem_of_getElem? (i := 2) rfl)) (by decide) (by decide)) q180a q180c (g := (mkF m 159 #[.val (.long p1), .second, .val (.long p2), .second, .val (.long p3), .second, .val (.long p4), .second, .val (.int p5), .val (.long p3), .second, .val (.long p2), .second, .val (.int ((XT.ushr p5 (2 : Int32)) &&& (3 : Int32))), .val (.ref b133), .val (.ref x175), .val (.int (0 : Int32)), .unset, .unset] [(.ref x175), (.ref b133)])) rfl (by rw [hml]; rfl) (Steps.refl _) (argsL := [(.ref x175)]) (rest := []) (lenOf own_pd3 rfl) rfl (by show 2 * 0 + _ ≤ _; exact Nat.le_of_eq rfl) (hb hby at_159) (fun _ _ => ⟨rfl, rfl, (by decide : 2 + 0 ≤ _), (by decide : 3 + 0 ≤ _)⟩)
            dsimp only [Pt.U, Pt.locs, Pt.cells, Pt.slots] at X180 l180 y180 z180 st180 hQ180
            subst l180 y180 z180
            obtain ⟨N180q, rfl, eh180⟩ := hQ180
            have N182 := Fr.app N178 N180q
            refine own_tr st180 ?_
            show own_Go p e below s _ _ _ (T180.setTop (mkF m 162 #[.val (.long p1), .second, .val (.long p2), .second, .val (.long p3), .second, .val (.long p4), .second, .val (.int p5), .val (.long p3), .second, .val (.long p2), .second, .val (.int ((XT.ushr p5 (2 : Int32)) &&& (3 : Int32))), .val (.ref b133), .val (.ref x175), .val (.int (0 : Int32)), .unset, .unset] [(.int (0 : Int32))]))
            refine own_st (fun _ k => XS.iload X180.here hx rfl (hb hby at_162) rfl k) ?_
            show own_Go p e below s _ _ _ (T180.setTop (mkF m 164 #[.val (.long p1), .second, .val (.long p2), .second, .val (.long p3), .second, .val (.long p4), .second, .val (.int p5), .val (.long p3), .second, .val (.long p2), .second, .val (.int ((XT.ushr p5 (2 : Int32)) &&& (3 : Int32))), .val (.ref b133), .val (.ref x175), .val (.int (0 : Int32)), .unset, .unset] [(.int (0 : Int32)), (.int (0 : Int32))]))
            refine own_st (fun _ k => XS.icmpNo X180.here hx rfl (hb hby at_164) rfl (XT.ii_ne_f rfl) k) ?_
            show own_Go p e below s _ _ _ (T180.setTop (mkF m 167 #[.val (.long p1), .second, .val (.long p2), .second, .val (.long p3), .second, .val (.long p4), .second, .val (.int p5), .val (.long p3), .second, .val (.long p2), .second, .val (.int ((XT.ushr p5 (2 : Int32)) &&& (3 : Int32))), .val (.ref b133), .val (.ref x175), .val (.int (0 : Int32)), .unset, .unset] []))
            refine own_st (fun _ k => XT.iconstV X180.here hx rfl (1 : Int32) (hb hby at_167) (by decide) k) ?_
            show own_Go p e below s _ _ _ (T180.setTop (mkF m 168 #[.val (.long p1), .second, .val (.long p2), .second, .val (.long p3), .second, .val (.long p4), .second, .val (.int p5), .val (.long p3), .second, .val (.long p2), .second, .val (.int ((XT.ushr p5 (2 : Int32)) &&& (3 : Int32))), .val (.ref b133), .val (.ref x175), .val (.int (0 : Int32)), .unset, .unset] [(.int (1 : Int32))]))
            refine own_st (fun _ k => XS.goto X180.here hx rfl (pc0 := 168) (pc' := 172) rfl (hb hby at_168) (by decide) (by decide) k) ?_
            show own_Go p e below s _ _ _ (T180.setTop (mkF m 172 #[.val (.long p1), .second, .val (.long p2), .second, .val (.long p3), .second, .val (.long p4), .second, .val (.int p5), .val (.long p3), .second, .val (.long p2), .second, .val (.int ((XT.ushr p5 (2 : Int32)) &&& (3 : Int32))), .val (.ref b133), .val (.ref x175), .val (.int (0 : Int32)), .unset, .unset] [(.int (1 : Int32))]))
            refine own_retN X180 hx hlk Bd.returns (t := .boolean) (z' := (1 : Int32)) (by simp) (by decide) (hb hby at_172) (by decide) (by decide) ?_
            rw [eh180]
            exact ⟨N182, rfl⟩
          · refine own_st (fun _ k => XS.icmpYes X138.here hx rfl (pc0 := 133) (pc' := 148) rfl (hb hby at_133) rfl (XT.ii_ne_t hc172) (by decide) (by decide) k) ?_
            show own_Go p e below s _ _ _ (T138.setTop (mkF m 148 #[.val (.long p1), .second, .val (.long p2), .second, .val (.long p3), .second, .val (.long p4), .second, .val (.int p5), .val (.long p3), .second, .val (.long p2), .second, .val (.int ((XT.ushr p5 (2 : Int32)) &&& (3 : Int32))), .val (.ref b133), .unset, .unset, .unset, .unset] []))
            refine own_st (fun _ k => XS.aload X138.here hx rfl (hb hby at_148) rfl rfl k) ?_
            show own_Go p e below s _ _ _ (T138.setTop (mkF m 150 #[.val (.long p1), .second, .val (.long p2), .second, .val (.long p3), .second, .val (.long p4), .second, .val (.int p5), .val (.long p3), .second, .val (.long p2), .second, .val (.int ((XT.ushr p5 (2 : Int32)) &&& (3 : Int32))), .val (.ref b133), .unset, .unset, .unset, .unset] [(.ref b133)]))
            refine own_st (fun _ k => XS.astore X138.here hx rfl (hb hby at_150) rfl rfl (l' := #[.val (.long p1), .second, .val (.long p2), .second, .val (.long p3), .second, .val (.long p4), .second, .val (.int p5), .val (.long p3), .second, .val (.long p2), .second, .val (.int ((XT.ushr p5 (2 : Int32)) &&& (3 : Int32))), .val (.ref b133), .val (.ref b133), .unset, .unset, .unset]) rfl k) ?_
            show own_Go p e below s _ _ _ (T138.setTop (mkF m 152 #[.val (.long p1), .second, .val (.long p2), .second, .val (.long p3), .second, .val (.long p4), .second, .val (.int p5), .val (.long p3), .second, .val (.long p2), .second, .val (.int ((XT.ushr p5 (2 : Int32)) &&& (3 : Int32))), .val (.ref b133), .val (.ref b133), .unset, .unset, .unset] []))
            refine own_st (fun _ k => XT.iconstV X138.here hx rfl (1 : Int32) (hb hby at_152) (by decide) k) ?_
            show own_Go p e below s _ _ _ (T138.setTop (mkF m 153 #[.val (.long p1), .second, .val (.long p2), .second, .val (.long p3), .second, .val (.long p4), .second, .val (.int p5), .val (.long p3), .second, .val (.long p2), .second, .val (.int ((XT.ushr p5 (2 : Int32)) &&& (3 : Int32))), .val (.ref b133), .val (.ref b133), .unset, .unset, .unset] [(.int (1 : Int32))]))
            refine own_st (fun _ k => XS.istore X138.here hx rfl (hb hby at_153) rfl (l' := #[.val (.long p1), .second, .val (.long p2), .second, .val (.long p3), .second, .val (.long p4), .second, .val (.int p5), .val (.long p3), .second, .val (.long p2), .second, .val (.int ((XT.ushr p5 (2 : Int32)) &&& (3 : Int32))), .val (.ref b133), .val (.ref b133), .val (.int (1 : Int32)), .unset, .unset]) rfl k) ?_
            show own_Go p e below s _ _ _ (T138.setTop (mkF m 155 #[.val (.long p1), .second, .val (.long p2), .second, .val (.long p3), .second, .val (.long p4), .second, .val (.int p5), .val (.long p3), .second, .val (.long p2), .second, .val (.int ((XT.ushr p5 (2 : Int32)) &&& (3 : Int32))), .val (.ref b133), .val (.ref b133), .val (.int (1 : Int32)), .unset, .unset] []))
            refine own_st (fun _ k => XS.aload X138.here hx rfl (hb hby at_155) rfl rfl k) ?_
            show own_Go p e below s _ _ _ (T138.setTop (mkF m 157 #[.val (.long p1), .second, .val (.long p2), .second, .val (.long p3), .second, .val (.long p4), .second, .val (.int p5), .val (.long p3), .second, .val (.long p2), .second, .val (.int ((XT.ushr p5 (2 : Int32)) &&& (3 : Int32))), .val (.ref b133), .val (.ref b133), .val (.int (1 : Int32)), .unset, .unset] [(.ref b133)]))
            refine own_st (fun _ k => XS.aload X138.here hx rfl (hb hby at_157) rfl rfl k) ?_
            show own_Go p e below s _ _ _ (T138.setTop (mkF m 159 #[.val (.long p1), .second, .val (.long p2), .second, .val (.long p3), .second, .val (.long p4), .second, .val (.int p5), .val (.long p3), .second, .val (.long p2), .second, .val (.int ((XT.ushr p5 (2 : Int32)) &&& (3 : Int32))), .val (.ref b133), .val (.ref b133), .val (.int (1 : Int32)), .unset, .unset] [(.ref b133), (.ref b133)]))
            obtain ⟨cq183, kq183, q183a, q183b, q183c⟩ := isOf hZ rfl q139
            obtain ⟨_, _, ⟨T183, L183, k183, n183⟩, -, X183, ⟨Lc183, hQ183, l183, y183, z183⟩, st183⟩ := X138.virtualBack hx (y := (⟨"com/example/epoch/epoch/protocol/record/AbortedTransaction", "equals", "(Ljava/lang/Object;)Z"⟩ : MethodName)) (z := (⟨"com/example/epoch/epoch/protocol/record/AbortedTransaction", "equals", "(Ljava/lang/Object;)Z"⟩ : MethodName)) hown (mvT hZ (hw _ (List.mem_of_getElem? (i := 13) rfl))) (mvT hZ (hw _ (List.mem_of_getElem? (i := 14) rfl))) (notFace_of_selects (args := #[]) (mvT hZ (hw _ (List.mem_of_getElem? (i := 16) rfl)))) (mvT hZ (hw _ (List.mem_of_getElem? (i := 16) rfl))) (mvT hZ (hw _ (List.mem_of_getElem? (i := 15) rfl))) (by decide) (backOf (W := 0) (own_rm_eqA l Z a0 hw [] b133 b133 p1 p2 p1 p2 T138.heap n0 Zs143 q139 q140 q141 q140 q141) hZ (hw _ (List.mem_of_getElem? (i := 17) rfl)) (hw _ (List.mem_of_getElem? (i := 2) rfl)) (by decide) (by decide)) q183a q183c (g := (mkF m 159 #[.val (.long p1), .second, .val (.long p2), .second, .val (.long p3), .second, .val (.long p4), .second, .val (.int p5), .val (.long p3), .second, .val (.long p2), .second, .val (.int ((XT.ushr p5 (2 : Int32)) &&& (3 : Int32))), .val (.ref b133), .val (.ref b133), .val (.int (1 : Int32)), .unset, .unset] [(.ref b133), (.ref b133)])) rfl (by rw [hml]; rfl) (Steps.refl _) (argsL := [(.ref b133)]) (rest := []) (lenOf own_pd3 rfl) rfl (by show 2 * 0 + _ ≤ _; exact Nat.le_of_eq rfl) (hb hby at_159) (fun _ _ => ⟨rfl, rfl, (by decide : 1 + 0 ≤ _), (by decide : 2 + 0 ≤ _)⟩)
            dsimp only [Pt.U, Pt.locs, Pt.cells, Pt.slots] at X183 l183 y183 z183 st183 hQ183
            subst l183 y183 z183
            obtain ⟨N183q, rfl, eh183⟩ := hQ183
            have N184 := Fr.app N142 N183q
            refine own_tr st183 ?_
            show own_Go p e below s _ _ _ (T183.setTop (mkF m 162 #[.val (.long p1), .second, .val (.long p2), .second, .val (.long p3), .second, .val (.long p4), .second, .val (.int p5), .val (.long p3), .second, .val (.long p2), .second, .val (.int ((XT.ushr p5 (2 : Int32)) &&& (3 : Int32))), .val (.ref b133), .val (.ref b133), .val (.int (1 : Int32)), .unset, .unset] [(.int (if p1 = p1 then (if p2 = p2 then (1 : Int32) else 0) else 0))]))
            refine own_st (fun _ k => XS.iload X183.here hx rfl (hb hby at_162) rfl k) ?_
            show own_Go p e below s _ _ _ (T183.setTop (mkF m 164 #[.val (.long p1), .second, .val (.long p2), .second, .val (.long p3), .second, .val (.long p4), .second, .val (.int p5), .val (.long p3), .second, .val (.long p2), .second, .val (.int ((XT.ushr p5 (2 : Int32)) &&& (3 : Int32))), .val (.ref b133), .val (.ref b133), .val (.int (1 : Int32)), .unset, .unset] [(.int (1 : Int32)), (.int (if p1 = p1 then (if p2 = p2 then (1 : Int32) else 0) else 0))]))
            refine own_st (fun _ k => XS.icmpNo X183.here hx rfl (hb hby at_164) rfl (XT.ii_ne_f (by simp [])) k) ?_
            show own_Go p e below s _ _ _ (T183.setTop (mkF m 167 #[.val (.long p1), .second, .val (.long p2), .second, .val (.long p3), .second, .val (.long p4), .second, .val (.int p5), .val (.long p3), .second, .val (.long p2), .second, .val (.int ((XT.ushr p5 (2 : Int32)) &&& (3 : Int32))), .val (.ref b133), .val (.ref b133), .val (.int (1 : Int32)), .unset, .unset] []))
            refine own_st (fun _ k => XT.iconstV X183.here hx rfl (1 : Int32) (hb hby at_167) (by decide) k) ?_
            show own_Go p e below s _ _ _ (T183.setTop (mkF m 168 #[.val (.long p1), .second, .val (.long p2), .second, .val (.long p3), .second, .val (.long p4), .second, .val (.int p5), .val (.long p3), .second, .val (.long p2), .second, .val (.int ((XT.ushr p5 (2 : Int32)) &&& (3 : Int32))), .val (.ref b133), .val (.ref b133), .val (.int (1 : Int32)), .unset, .unset] [(.int (1 : Int32))]))
            refine own_st (fun _ k => XS.goto X183.here hx rfl (pc0 := 168) (pc' := 172) rfl (hb hby at_168) (by decide) (by decide) k) ?_
            show own_Go p e below s _ _ _ (T183.setTop (mkF m 172 #[.val (.long p1), .second, .val (.long p2), .second, .val (.long p3), .second, .val (.long p4), .second, .val (.int p5), .val (.long p3), .second, .val (.long p2), .second, .val (.int ((XT.ushr p5 (2 : Int32)) &&& (3 : Int32))), .val (.ref b133), .val (.ref b133), .val (.int (1 : Int32)), .unset, .unset] [(.int (1 : Int32))]))
            refine own_retN X183 hx hlk Bd.returns (t := .boolean) (z' := (1 : Int32)) (by simp) (by decide) (hb hby at_172) (by decide) (by decide) ?_
            rw [eh183]
            exact ⟨N184, rfl⟩
  · refine own_st (fun _ k => XS.ifNo X0.here hx rfl (hb hby at_4) rfl (XT.i0_eq_f hc65) k) ?_
    show own_Go p e below s _ _ _ (s₁.setTop (mkF m 7 #[.val (.long p1), .second, .val (.long p2), .second, .val (.long p3), .second, .val (.long p4), .second, .val (.int p5), .unset, .unset, .unset, .unset, .unset, .unset, .unset, .unset, .unset, .unset] []))
    refine own_st (fun _ k => XT.lloadN X0.here hx rfl (hb hby at_7) rfl k) ?_
    show own_Go p e below s _ _ _ (s₁.setTop (mkF m 8 #[.val (.long p1), .second, .val (.long p2), .second, .val (.long p3), .second, .val (.long p4), .second, .val (.int p5), .unset, .unset, .unset, .unset, .unset, .unset, .unset, .unset, .unset, .unset] [(.long p1)]))
    refine own_st (fun _ k => XS.goto X0.here hx rfl (pc0 := 8) (pc' := 13) rfl (hb hby at_8) (by decide) (by decide) k) ?_
    show own_Go p e below s _ _ _ (s₁.setTop (mkF m 13 #[.val (.long p1), .second, .val (.long p2), .second, .val (.long p3), .second, .val (.long p4), .second, .val (.int p5), .unset, .unset, .unset, .unset, .unset, .unset, .unset, .unset, .unset, .unset] [(.long p1)]))
    refine own_st (fun _ k => XT.lstore X0.here hx rfl (hb hby at_13) rfl (l' := #[.val (.long p1), .second, .val (.long p2), .second, .val (.long p3), .second, .val (.long p4), .second, .val (.int p5), .val (.long p1), .second, .unset, .unset, .unset, .unset, .unset, .unset, .unset, .unset]) rfl k) ?_
    show own_Go p e below s _ _ _ (s₁.setTop (mkF m 15 #[.val (.long p1), .second, .val (.long p2), .second, .val (.long p3), .second, .val (.long p4), .second, .val (.int p5), .val (.long p1), .second, .unset, .unset, .unset, .unset, .unset, .unset, .unset, .unset] []))
    refine own_st (fun _ k => XS.iload X0.here hx rfl (hb hby at_15) rfl k) ?_
    show own_Go p e below s _ _ _ (s₁.setTop (mkF m 17 #[.val (.long p1), .second, .val (.long p2), .second, .val (.long p3), .second, .val (.long p4), .second, .val (.int p5), .val (.long p1), .second, .unset, .unset, .unset, .unset, .unset, .unset, .unset, .unset] [(.int p5)]))
    refine own_st (fun _ k => XT.iconstV X0.here hx rfl (2 : Int32) (hb hby at_17) (by decide) k) ?_
    show own_Go p e below s _ _ _ (s₁.setTop (mkF m 18 #[.val (.long p1), .second, .val (.long p2), .second, .val (.long p3), .second, .val (.long p4), .second, .val (.int p5), .val (.long p1), .second, .unset, .unset, .unset, .unset, .unset, .unset, .unset, .unset] [(.int (2 : Int32)), (.int p5)]))
    refine own_st (fun _ k => XS.iand X0.here hx rfl (hb hby at_18) rfl k) ?_
    show own_Go p e below s _ _ _ (s₁.setTop (mkF m 19 #[.val (.long p1), .second, .val (.long p2), .second, .val (.long p3), .second, .val (.long p4), .second, .val (.int p5), .val (.long p1), .second, .unset, .unset, .unset, .unset, .unset, .unset, .unset, .unset] [(.int (p5 &&& (2 : Int32)))]))
    by_cases hc185 : (p5 &&& (2 : Int32)) = 0
    · refine own_st (fun _ k => XS.ifYes X0.here hx rfl (pc0 := 19) (pc' := 26) rfl (hb hby at_19) rfl (XT.i0_eq_t hc185) (by decide) (by decide) k) ?_
      show own_Go p e below s _ _ _ (s₁.setTop (mkF m 26 #[.val (.long p1), .second, .val (.long p2), .second, .val (.long p3), .second, .val (.long p4), .second, .val (.int p5), .val (.long p1), .second, .unset, .unset, .unset, .unset, .unset, .unset, .unset, .unset] []))
      refine own_st (fun _ k => XT.lload X0.here hx rfl (hb hby at_26) rfl k) ?_
      show own_Go p e below s _ _ _ (s₁.setTop (mkF m 28 #[.val (.long p1), .second, .val (.long p2), .second, .val (.long p3), .second, .val (.long p4), .second, .val (.int p5), .val (.long p1), .second, .unset, .unset, .unset, .unset, .unset, .unset, .unset, .unset] [(.long p4)]))
      refine own_st (fun _ k => XT.lstore X0.here hx rfl (hb hby at_28) rfl (l' := #[.val (.long p1), .second, .val (.long p2), .second, .val (.long p3), .second, .val (.long p4), .second, .val (.int p5), .val (.long p1), .second, .val (.long p4), .second, .unset, .unset, .unset, .unset, .unset, .unset]) rfl k) ?_
      show own_Go p e below s _ _ _ (s₁.setTop (mkF m 30 #[.val (.long p1), .second, .val (.long p2), .second, .val (.long p3), .second, .val (.long p4), .second, .val (.int p5), .val (.long p1), .second, .val (.long p4), .second, .unset, .unset, .unset, .unset, .unset, .unset] []))
      refine own_st (fun _ k => XS.iload X0.here hx rfl (hb hby at_30) rfl k) ?_
      show own_Go p e below s _ _ _ (s₁.setTop (mkF m 32 #[.val (.long p1), .second, .val (.long p2), .second, .val (.long p3), .second, .val (.long p4), .second, .val (.int p5), .val (.long p1), .second, .val (.long p4), .second, .unset, .unset, .unset, .unset, .unset, .unset] [(.int p5)]))
      refine own_st (fun _ k => XT.iconstV X0.here hx rfl (2 : Int32) (hb hby at_32) (by decide) k) ?_
      show own_Go p e below s _ _ _ (s₁.setTop (mkF m 33 #[.val (.long p1), .second, .val (.long p2), .second, .val (.long p3), .second, .val (.long p4), .second, .val (.int p5), .val (.long p1), .second, .val (.long p4), .second, .unset, .unset, .unset, .unset, .unset, .unset] [(.int (2 : Int32)), (.int p5)]))
      refine own_st (fun _ k => XT.iushr X0.here hx rfl (hb hby at_33) rfl k) ?_
      show own_Go p e below s _ _ _ (s₁.setTop (mkF m 34 #[.val (.long p1), .second, .val (.long p2), .second, .val (.long p3), .second, .val (.long p4), .second, .val (.int p5), .val (.long p1), .second, .val (.long p4), .second, .unset, .unset, .unset, .unset, .unset, .unset] [(.int (XT.ushr p5 (2 : Int32)))]))
      refine own_st (fun _ k => XT.iconstV X0.here hx rfl (3 : Int32) (hb hby at_34) (by decide) k) ?_
      show own_Go p e below s _ _ _ (s₁.setTop (mkF m 35 #[.val (.long p1), .second, .val (.long p2), .second, .val (.long p3), .second, .val (.long p4), .second, .val (.int p5), .val (.long p1), .second, .val (.long p4), .second, .unset, .unset, .unset, .unset, .unset, .unset] [(.int (3 : Int32)), (.int (XT.ushr p5 (2 : Int32)))]))
      refine own_st (fun _ k => XS.iand X0.here hx rfl (hb hby at_35) rfl k) ?_
      show own_Go p e below s _ _ _ (s₁.setTop (mkF m 36 #[.val (.long p1), .second, .val (.long p2), .second, .val (.long p3), .second, .val (.long p4), .second, .val (.int p5), .val (.long p1), .second, .val (.long p4), .second, .unset, .unset, .unset, .unset, .unset, .unset] [(.int ((XT.ushr p5 (2 : Int32)) &&& (3 : Int32)))]))
      refine own_st (fun _ k => XS.istore X0.here hx rfl (hb hby at_36) rfl (l' := #[.val (.long p1), .second, .val (.long p2), .second, .val (.long p3), .second, .val (.long p4), .second, .val (.int p5), .val (.long p1), .second, .val (.long p4), .second, .val (.int ((XT.ushr p5 (2 : Int32)) &&& (3 : Int32))), .unset, .unset, .unset, .unset, .unset]) rfl k) ?_
      show own_Go p e below s _ _ _ (s₁.setTop (mkF m 38 #[.val (.long p1), .second, .val (.long p2), .second, .val (.long p3), .second, .val (.long p4), .second, .val (.int p5), .val (.long p1), .second, .val (.long p4), .second, .val (.int ((XT.ushr p5 (2 : Int32)) &&& (3 : Int32))), .unset, .unset, .unset, .unset, .unset] []))
      obtain ⟨T186, h186, X186, e186, E186, A186, D186, -, st186⟩ := newO X0 hx hZ hown (hw _ (List.mem_of_getElem? (i := 0) rfl)) (hw _ (List.mem_of_getElem? (i := 1) rfl)) (hw _ (List.mem_of_getElem? (i := 2) rfl)) e0 (g := (mkF m 38 #[.val (.long p1), .second, .val (.long p2), .second, .val (.long p3), .second, .val (.long p4), .second, .val (.int p5), .val (.long p1), .second, .val (.long p4), .second, .val (.int ((XT.ushr p5 (2 : Int32)) &&& (3 : Int32))), .unset, .unset, .unset, .unset, .unset] [])) rfl (hb hby at_38) (by decide) (by decide)
      obtain ⟨b186, g186⟩ : ∃ z, z = h0.size := ⟨_, rfl⟩
      rw [← g186] at A186 D186 st186
      refine own_st st186 ?_
      have Zs187 : n0 ≤ h186.size := Nat.le_trans Z0 E186.1
      have g188 : n0 ≤ b186 := Nat.le_trans Z0 (Nat.le_of_eq g186.symm)
      have F189 : Fld Z h186 b186 "com/example/epoch/epoch/protocol/record/AbortedTransaction" "producerId" "J" (.long (0 : Int64)) := D186 (Or.inr (hw _ (List.mem_of_getElem? (i := 10) rfl))) (ty := .long) (by decide)
      have F190 : Fld Z h186 b186 "com/example/epoch/epoch/protocol/record/AbortedTransaction" "firstOffset" "J" (.long (0 : Int64)) := D186 (Or.inr (hw _ (List.mem_of_getElem? (i := 12) rfl))) (ty := .long) (by decide)
      show own_Go p e below s _ _ _ (T186.setTop (mkF m 41 #[.val (.long p1), .second, .val (.long p2), .second, .val (.long p3), .second, .val (.long p4), .second, .val (.int p5), .val (.long p1), .second, .val (.long p4), .second, .val (.int ((XT.ushr p5 (2 : Int32)) &&& (3 : Int32))), .unset, .unset, .unset, .unset, .unset] [(.ref b186)]))
      refine own_st (fun _ k => XS.dup X186.here hx rfl (hb hby at_41) rfl rfl k) ?_
      show own_Go p e below s _ _ _ (T186.setTop (mkF m 42 #[.val (.long p1), .second, .val (.long p2), .second, .val (.long p3), .second, .val (.long p4), .second, .val (.int p5), .val (.long p1), .second, .val (.long p4), .second, .val (.int ((XT.ushr p5 (2 : Int32)) &&& (3 : Int32))), .unset, .unset, .unset, .unset, .unset] [(.ref b186), (.ref b186)]))
      refine own_st (fun _ k => XT.lloadN X186.here hx rfl (hb hby at_42) rfl k) ?_
      show own_Go p e below s _ _ _ (T186.setTop (mkF m 43 #[.val (.long p1), .second, .val (.long p2), .second, .val (.long p3), .second, .val (.long p4), .second, .val (.int p5), .val (.long p1), .second, .val (.long p4), .second, .val (.int ((XT.ushr p5 (2 : Int32)) &&& (3 : Int32))), .unset, .unset, .unset, .unset, .unset] [(.long p1), (.ref b186), (.ref b186)]))
      refine own_st (fun _ k => XT.lloadN X186.here hx rfl (hb hby at_43) rfl k) ?_
      show own_Go p e below s _ _ _ (T186.setTop (mkF m 44 #[.val (.long p1), .second, .val (.long p2), .second, .val (.long p3), .second, .val (.long p4), .second, .val (.int p5), .val (.long p1), .second, .val (.long p4), .second, .val (.int ((XT.ushr p5 (2 : Int32)) &&& (3 : Int32))), .unset, .unset, .unset, .unset, .unset] [(.long p2), (.long p1), (.ref b186), (.ref b186)]))
      obtain ⟨_, _, ⟨T191, L191, k191, n191⟩, -, X191, ⟨Lc191, hQ191, l191, y191, z191⟩, st191⟩ := X186.specialBack hx (y := (⟨"com/example/epoch/epoch/protocol/record/AbortedTransaction", "<init>", "(JJ)V"⟩ : MethodName)) rfl hown (mvT hZ (hw _ (List.mem_of_getElem? (i := 3) rfl))) (mvT hZ (hw _ (List.mem_of_getElem? (i := 4) rfl))) (mvT hZ (hw _ (List.mem_of_getElem? (i := 5) rfl))) (by decide) (backOf (W := 1) (own_rm_init l Z a0 hw [] b186 p1 p2 h186 n0 Zs187 A186 F189 F190 g188) hZ (hw _ (List.mem_of_getElem? (i := 5) rfl)) (hw _ (List.mem_of_getElem? (i := 2) rfl)) (by decide) (by decide)) (g := (mkF m 44 #[.val (.long p1), .second, .val (.long p2), .second, .val (.long p3), .second, .val (.long p4), .second, .val (.int p5), .val (.long p1), .second, .val (.long p4), .second, .val (.int ((XT.ushr p5 (2 : Int32)) &&& (3 : Int32))), .unset, .unset, .unset, .unset, .unset] [(.long p2), (.long p1), (.ref b186), (.ref b186)])) rfl (by rw [hml]; rfl) (Steps.refl _) (a := b186) (argsL := [(.long p1), (.long p2)]) (rest := [(.ref b186)]) (lenOf own_pd2 rfl) rfl (by show 2 * 0 + _ ≤ _; exact Nat.le_of_eq rfl) (hb hby at_44) (fun _ _ => ⟨rfl, e186, (by decide : 1 + 0 ≤ _), (by decide : 2 + 0 ≤ _)⟩)
      dsimp only [Pt.U, Pt.locs, Pt.cells, Pt.slots] at X191 l191 y191 z191 st191 hQ191
      subst l191 y191 z191
      obtain ⟨N191q, rfl, K191, q192, q193, q194⟩ := hQ191
      have N195 := Fr.app N0 N191q
      refine own_tr st191 ?_
      have Zs196 : n0 ≤ T191.heap.size := Nat.le_trans Zs187 K191.1
      show own_Go p e below s _ _ _ (T191.setTop (mkF m 47 #[.val (.long p1), .second, .val (.long p2), .second, .val (.long p3), .second, .val (.long p4), .second, .val (.int p5), .val (.long p1), .second, .val (.long p4), .second, .val (.int ((XT.ushr p5 (2 : Int32)) &&& (3 : Int32))), .unset, .unset, .unset, .unset, .unset] [(.ref b186)]))
      refine own_st (fun _ k => XS.astore X191.here hx rfl (hb hby at_47) rfl rfl (l' := #[.val (.long p1), .second, .val (.long p2), .second, .val (.long p3), .second, .val (.long p4), .second, .val (.int p5), .val (.long p1), .second, .val (.long p4), .second, .val (.int ((XT.ushr p5 (2 : Int32)) &&& (3 : Int32))), .val (.ref b186), .unset, .unset, .unset, .unset]) rfl k) ?_
      show own_Go p e below s _ _ _ (T191.setTop (mkF m 49 #[.val (.long p1), .second, .val (.long p2), .second, .val (.long p3), .second, .val (.long p4), .second, .val (.int p5), .val (.long p1), .second, .val (.long p4), .second, .val (.int ((XT.ushr p5 (2 : Int32)) &&& (3 : Int32))), .val (.ref b186), .unset, .unset, .unset, .unset] []))
      refine own_st (fun _ k => XS.iload X191.here hx rfl (hb hby at_49) rfl k) ?_
      show own_Go p e below s _ _ _ (T191.setTop (mkF m 51 #[.val (.long p1), .second, .val (.long p2), .second, .val (.long p3), .second, .val (.long p4), .second, .val (.int p5), .val (.long p1), .second, .val (.long p4), .second, .val (.int ((XT.ushr p5 (2 : Int32)) &&& (3 : Int32))), .val (.ref b186), .unset, .unset, .unset, .unset] [(.int ((XT.ushr p5 (2 : Int32)) &&& (3 : Int32)))]))
      by_cases hc197 : ((XT.ushr p5 (2 : Int32)) &&& (3 : Int32)) = 0
      · refine own_st (fun _ k => XS.ifNo X191.here hx rfl (hb hby at_51) rfl (XT.i0_ne_f hc197) k) ?_
        show own_Go p e below s _ _ _ (T191.setTop (mkF m 54 #[.val (.long p1), .second, .val (.long p2), .second, .val (.long p3), .second, .val (.long p4), .second, .val (.int p5), .val (.long p1), .second, .val (.long p4), .second, .val (.int ((XT.ushr p5 (2 : Int32)) &&& (3 : Int32))), .val (.ref b186), .unset, .unset, .unset, .unset] []))
        obtain ⟨T198, h198, X198, e198, E198, A198, D198, -, st198⟩ := newO X191 hx hZ hown (hw _ (List.mem_of_getElem? (i := 0) rfl)) (hw _ (List.mem_of_getElem? (i := 1) rfl)) (hw _ (List.mem_of_getElem? (i := 2) rfl)) rfl (g := (mkF m 54 #[.val (.long p1), .second, .val (.long p2), .second, .val (.long p3), .second, .val (.long p4), .second, .val (.int p5), .val (.long p1), .second, .val (.long p4), .second, .val (.int ((XT.ushr p5 (2 : Int32)) &&& (3 : Int32))), .val (.ref b186), .unset, .unset, .unset, .unset] [])) rfl (hb hby at_54) (by decide) (by decide)
        obtain ⟨b198, g198⟩ : ∃ z, z = T191.heap.size := ⟨_, rfl⟩
        rw [← g198] at A198 D198 st198
        refine own_st st198 ?_
        have Zs199 : n0 ≤ h198.size := Nat.le_trans Zs196 E198.1
        have g200 : n0 ≤ b198 := Nat.le_trans Zs196 (Nat.le_of_eq g198.symm)
        have F201 : Fld Z h198 b198 "com/example/epoch/epoch/protocol/record/AbortedTransaction" "producerId" "J" (.long (0 : Int64)) := D198 (Or.inr (hw _ (List.mem_of_getElem? (i := 10) rfl))) (ty := .long) (by decide)
        have F202 : Fld Z h198 b198 "com/example/epoch/epoch/protocol/record/AbortedTransaction" "firstOffset" "J" (.long (0 : Int64)) := D198 (Or.inr (hw _ (List.mem_of_getElem? (i := 12) rfl))) (ty := .long) (by decide)
        show own_Go p e below s _ _ _ (T198.setTop (mkF m 57 #[.val (.long p1), .second, .val (.long p2), .second, .val (.long p3), .second, .val (.long p4), .second, .val (.int p5), .val (.long p1), .second, .val (.long p4), .second, .val (.int ((XT.ushr p5 (2 : Int32)) &&& (3 : Int32))), .val (.ref b186), .unset, .unset, .unset, .unset] [(.ref b198)]))
        refine own_st (fun _ k => XS.dup X198.here hx rfl (hb hby at_57) rfl rfl k) ?_
        show own_Go p e below s _ _ _ (T198.setTop (mkF m 58 #[.val (.long p1), .second, .val (.long p2), .second, .val (.long p3), .second, .val (.long p4), .second, .val (.int p5), .val (.long p1), .second, .val (.long p4), .second, .val (.int ((XT.ushr p5 (2 : Int32)) &&& (3 : Int32))), .val (.ref b186), .unset, .unset, .unset, .unset] [(.ref b198), (.ref b198)]))
        refine own_st (fun _ k => XT.lload X198.here hx rfl (hb hby at_58) rfl k) ?_
        show own_Go p e below s _ _ _ (T198.setTop (mkF m 60 #[.val (.long p1), .second, .val (.long p2), .second, .val (.long p3), .second, .val (.long p4), .second, .val (.int p5), .val (.long p1), .second, .val (.long p4), .second, .val (.int ((XT.ushr p5 (2 : Int32)) &&& (3 : Int32))), .val (.ref b186), .unset, .unset, .unset, .unset] [(.long p1), (.ref b198), (.ref b198)]))
        refine own_st (fun _ k => XT.lload X198.here hx rfl (hb hby at_60) rfl k) ?_
        show own_Go p e below s _ _ _ (T198.setTop (mkF m 62 #[.val (.long p1), .second, .val (.long p2), .second, .val (.long p3), .second, .val (.long p4), .second, .val (.int p5), .val (.long p1), .second, .val (.long p4), .second, .val (.int ((XT.ushr p5 (2 : Int32)) &&& (3 : Int32))), .val (.ref b186), .unset, .unset, .unset, .unset] [(.long p4), (.long p1), (.ref b198), (.ref b198)]))
        obtain ⟨_, _, ⟨T203, L203, k203, n203⟩, -, X203, ⟨Lc203, hQ203, l203, y203, z203⟩, st203⟩ := X198.specialBack hx (y := (⟨"com/example/epoch/epoch/protocol/record/AbortedTransaction", "<init>", "(JJ)V"⟩ : MethodName)) rfl hown (mvT hZ (hw _ (List.mem_of_getElem? (i := 3) rfl))) (mvT hZ (hw _ (List.mem_of_getElem? (i := 4) rfl))) (mvT hZ (hw _ (List.mem_of_getElem? (i := 5) rfl))) (by decide) (backOf (W := 1) (own_rm_init l Z a0 hw [] b198 p1 p4 h198 n0 Zs199 A198 F201 F202 g200) hZ (hw _ (List.mem_of_getElem? (i := 5) rfl)) (hw _ (List.mem_of_getElem? (i := 2) rfl)) (by decide) (by decide)) (g := (mkF m 62 #[.val (.long p1), .second, .val (.long p2), .second, .val (.long p3), .second, .val (.long p4), .second, .val (.int p5), .val (.long p1), .second, .val (.long p4), .second, .val (.int ((XT.ushr p5 (2 : Int32)) &&& (3 : Int32))), .val (.ref b186), .unset, .unset, .unset, .unset] [(.long p4), (.long p1), (.ref b198), (.ref b198)])) rfl (by rw [hml]; rfl) (Steps.refl _) (a := b198) (argsL := [(.long p1), (.long p4)]) (rest := [(.ref b198)]) (lenOf own_pd2 rfl) rfl (by show 2 * 0 + _ ≤ _; exact Nat.le_of_eq rfl) (hb hby at_62) (fun _ _ => ⟨rfl, e198, (by decide : 2 + 0 ≤ _), (by decide : 4 + 0 ≤ _)⟩)
        dsimp only [Pt.U, Pt.locs, Pt.cells, Pt.slots] at X203 l203 y203 z203 st203 hQ203
        subst l203 y203 z203
        obtain ⟨N203q, rfl, K203, q204, q205, q206⟩ := hQ203
        have N207 := Fr.app N195 N203q
        refine own_tr st203 ?_
        have Zs208 : n0 ≤ T203.heap.size := Nat.le_trans Zs199 K203.1
        show own_Go p e below s _ _ _ (T203.setTop (mkF m 65 #[.val (.long p1), .second, .val (.long p2), .second, .val (.long p3), .second, .val (.long p4), .second, .val (.int p5), .val (.long p1), .second, .val (.long p4), .second, .val (.int ((XT.ushr p5 (2 : Int32)) &&& (3 : Int32))), .val (.ref b186), .unset, .unset, .unset, .unset] [(.ref b198)]))
        refine own_st (fun _ k => XS.astore X203.here hx rfl (hb hby at_65) rfl rfl (l' := #[.val (.long p1), .second, .val (.long p2), .second, .val (.long p3), .second, .val (.long p4), .second, .val (.int p5), .val (.long p1), .second, .val (.long p4), .second, .val (.int ((XT.ushr p5 (2 : Int32)) &&& (3 : Int32))), .val (.ref b186), .val (.ref b198), .unset, .unset, .unset]) rfl k) ?_
        show own_Go p e below s _ _ _ (T203.setTop (mkF m 67 #[.val (.long p1), .second, .val (.long p2), .second, .val (.long p3), .second, .val (.long p4), .second, .val (.int p5), .val (.long p1), .second, .val (.long p4), .second, .val (.int ((XT.ushr p5 (2 : Int32)) &&& (3 : Int32))), .val (.ref b186), .val (.ref b198), .unset, .unset, .unset] []))
        refine own_st (fun _ k => XT.lloadN X203.here hx rfl (hb hby at_67) rfl k) ?_
        show own_Go p e below s _ _ _ (T203.setTop (mkF m 68 #[.val (.long p1), .second, .val (.long p2), .second, .val (.long p3), .second, .val (.long p4), .second, .val (.int p5), .val (.long p1), .second, .val (.long p4), .second, .val (.int ((XT.ushr p5 (2 : Int32)) &&& (3 : Int32))), .val (.ref b186), .val (.ref b198), .unset, .unset, .unset] [(.long p1)]))
        refine own_st (fun _ k => XT.lload X203.here hx rfl (hb hby at_68) rfl k) ?_
        show own_Go p e below s _ _ _ (T203.setTop (mkF m 70 #[.val (.long p1), .second, .val (.long p2), .second, .val (.long p3), .second, .val (.long p4), .second, .val (.int p5), .val (.long p1), .second, .val (.long p4), .second, .val (.int ((XT.ushr p5 (2 : Int32)) &&& (3 : Int32))), .val (.ref b186), .val (.ref b198), .unset, .unset, .unset] [(.long p1), (.long p1)]))
        refine own_st (fun _ k => XT.lcmp X203.here hx rfl (hb hby at_70) rfl k) ?_
        show own_Go p e below s _ _ _ (T203.setTop (mkF m 71 #[.val (.long p1), .second, .val (.long p2), .second, .val (.long p3), .second, .val (.long p4), .second, .val (.int p5), .val (.long p1), .second, .val (.long p4), .second, .val (.int ((XT.ushr p5 (2 : Int32)) &&& (3 : Int32))), .val (.ref b186), .val (.ref b198), .unset, .unset, .unset] [(.int (XT.cmpL p1 p1))]))
        refine own_st (fun _ k => XS.ifNo X203.here hx rfl (hb hby at_71) rfl (XT.ll_ne_f rfl) k) ?_
        show own_Go p e below s _ _ _ (T203.setTop (mkF m 74 #[.val (.long p1), .second, .val (.long p2), .second, .val (.long p3), .second, .val (.long p4), .second, .val (.int p5), .val (.long p1), .second, .val (.long p4), .second, .val (.int ((XT.ushr p5 (2 : Int32)) &&& (3 : Int32))), .val (.ref b186), .val (.ref b198), .unset, .unset, .unset] []))
        refine own_st (fun _ k => XT.iconstV X203.here hx rfl (1 : Int32) (hb hby at_74) (by decide) k) ?_
        show own_Go p e below s _ _ _ (T203.setTop (mkF m 75 #[.val (.long p1), .second, .val (.long p2), .second, .val (.long p3), .second, .val (.long p4), .second, .val (.int p5), .val (.long p1), .second, .val (.long p4), .second, .val (.int ((XT.ushr p5 (2 : Int32)) &&& (3 : Int32))), .val (.ref b186), .val (.ref b198), .unset, .unset, .unset] [(.int (1 : Int32))]))
        refine own_st (fun _ k => XS.goto X203.here hx rfl (pc0 := 75) (pc' := 79) rfl (hb hby at_75) (by decide) (by decide) k) ?_
        show own_Go p e below s _ _ _ (T203.setTop (mkF m 79 #[.val (.long p1), .second, .val (.long p2), .second, .val (.long p3), .second, .val (.long p4), .second, .val (.int p5), .val (.long p1), .second, .val (.long p4), .second, .val (.int ((XT.ushr p5 (2 : Int32)) &&& (3 : Int32))), .val (.ref b186), .val (.ref b198), .unset, .unset, .unset] [(.int (1 : Int32))]))
        refine own_st (fun _ k => XS.istore X203.here hx rfl (hb hby at_79) rfl (l' := #[.val (.long p1), .second, .val (.long p2), .second, .val (.long p3), .second, .val (.long p4), .second, .val (.int p5), .val (.long p1), .second, .val (.long p4), .second, .val (.int ((XT.ushr p5 (2 : Int32)) &&& (3 : Int32))), .val (.ref b186), .val (.ref b198), .unset, .val (.int (1 : Int32)), .unset]) rfl k) ?_
        show own_Go p e below s _ _ _ (T203.setTop (mkF m 81 #[.val (.long p1), .second, .val (.long p2), .second, .val (.long p3), .second, .val (.long p4), .second, .val (.int p5), .val (.long p1), .second, .val (.long p4), .second, .val (.int ((XT.ushr p5 (2 : Int32)) &&& (3 : Int32))), .val (.ref b186), .val (.ref b198), .unset, .val (.int (1 : Int32)), .unset] []))
        refine own_st (fun _ k => XT.lloadN X203.here hx rfl (hb hby at_81) rfl k) ?_
        show own_Go p e below s _ _ _ (T203.setTop (mkF m 82 #[.val (.long p1), .second, .val (.long p2), .second, .val (.long p3), .second, .val (.long p4), .second, .val (.int p5), .val (.long p1), .second, .val (.long p4), .second, .val (.int ((XT.ushr p5 (2 : Int32)) &&& (3 : Int32))), .val (.ref b186), .val (.ref b198), .unset, .val (.int (1 : Int32)), .unset] [(.long p2)]))
        refine own_st (fun _ k => XT.lload X203.here hx rfl (hb hby at_82) rfl k) ?_
        show own_Go p e below s _ _ _ (T203.setTop (mkF m 84 #[.val (.long p1), .second, .val (.long p2), .second, .val (.long p3), .second, .val (.long p4), .second, .val (.int p5), .val (.long p1), .second, .val (.long p4), .second, .val (.int ((XT.ushr p5 (2 : Int32)) &&& (3 : Int32))), .val (.ref b186), .val (.ref b198), .unset, .val (.int (1 : Int32)), .unset] [(.long p4), (.long p2)]))
        refine own_st (fun _ k => XT.lcmp X203.here hx rfl (hb hby at_84) rfl k) ?_
        show own_Go p e below s _ _ _ (T203.setTop (mkF m 85 #[.val (.long p1), .second, .val (.long p2), .second, .val (.long p3), .second, .val (.long p4), .second, .val (.int p5), .val (.long p1), .second, .val (.long p4), .second, .val (.int ((XT.ushr p5 (2 : Int32)) &&& (3 : Int32))), .val (.ref b186), .val (.ref b198), .unset, .val (.int (1 : Int32)), .unset] [(.int (XT.cmpL p2 p4))]))
        by_cases hc209 : p2 = p4
        · refine own_st (fun _ k => XS.ifNo X203.here hx rfl (hb hby at_85) rfl (XT.ll_ne_f hc209) k) ?_
          show own_Go p e below s _ _ _ (T203.setTop (mkF m 88 #[.val (.long p1), .second, .val (.long p2), .second, .val (.long p3), .second, .val (.long p4), .second, .val (.int p5), .val (.long p1), .second, .val (.long p4), .second, .val (.int ((XT.ushr p5 (2 : Int32)) &&& (3 : Int32))), .val (.ref b186), .val (.ref b198), .unset, .val (.int (1 : Int32)), .unset] []))
          refine own_st (fun _ k => XT.iconstV X203.here hx rfl (1 : Int32) (hb hby at_88) (by decide) k) ?_
          show own_Go p e below s _ _ _ (T203.setTop (mkF m 89 #[.val (.long p1), .second, .val (.long p2), .second, .val (.long p3), .second, .val (.long p4), .second, .val (.int p5), .val (.long p1), .second, .val (.long p4), .second, .val (.int ((XT.ushr p5 (2 : Int32)) &&& (3 : Int32))), .val (.ref b186), .val (.ref b198), .unset, .val (.int (1 : Int32)), .unset] [(.int (1 : Int32))]))
          refine own_st (fun _ k => XS.goto X203.here hx rfl (pc0 := 89) (pc' := 93) rfl (hb hby at_89) (by decide) (by decide) k) ?_
          show own_Go p e below s _ _ _ (T203.setTop (mkF m 93 #[.val (.long p1), .second, .val (.long p2), .second, .val (.long p3), .second, .val (.long p4), .second, .val (.int p5), .val (.long p1), .second, .val (.long p4), .second, .val (.int ((XT.ushr p5 (2 : Int32)) &&& (3 : Int32))), .val (.ref b186), .val (.ref b198), .unset, .val (.int (1 : Int32)), .unset] [(.int (1 : Int32))]))
          refine own_st (fun _ k => XS.istore X203.here hx rfl (hb hby at_93) rfl (l' := #[.val (.long p1), .second, .val (.long p2), .second, .val (.long p3), .second, .val (.long p4), .second, .val (.int p5), .val (.long p1), .second, .val (.long p4), .second, .val (.int ((XT.ushr p5 (2 : Int32)) &&& (3 : Int32))), .val (.ref b186), .val (.ref b198), .unset, .val (.int (1 : Int32)), .val (.int (1 : Int32))]) rfl k) ?_
          show own_Go p e below s _ _ _ (T203.setTop (mkF m 95 #[.val (.long p1), .second, .val (.long p2), .second, .val (.long p3), .second, .val (.long p4), .second, .val (.int p5), .val (.long p1), .second, .val (.long p4), .second, .val (.int ((XT.ushr p5 (2 : Int32)) &&& (3 : Int32))), .val (.ref b186), .val (.ref b198), .unset, .val (.int (1 : Int32)), .val (.int (1 : Int32))] []))
          refine own_st (fun _ k => XS.iload X203.here hx rfl (hb hby at_95) rfl k) ?_
          show own_Go p e below s _ _ _ (T203.setTop (mkF m 97 #[.val (.long p1), .second, .val (.long p2), .second, .val (.long p3), .second, .val (.long p4), .second, .val (.int p5), .val (.long p1), .second, .val (.long p4), .second, .val (.int ((XT.ushr p5 (2 : Int32)) &&& (3 : Int32))), .val (.ref b186), .val (.ref b198), .unset, .val (.int (1 : Int32)), .val (.int (1 : Int32))] [(.int (1 : Int32))]))
          refine own_st (fun _ k => XS.ifNo X203.here hx rfl (hb hby at_97) rfl (XT.i0_eq_f (by decide)) k) ?_
          show own_Go p e below s _ _ _ (T203.setTop (mkF m 100 #[.val (.long p1), .second, .val (.long p2), .second, .val (.long p3), .second, .val (.long p4), .second, .val (.int p5), .val (.long p1), .second, .val (.long p4), .second, .val (.int ((XT.ushr p5 (2 : Int32)) &&& (3 : Int32))), .val (.ref b186), .val (.ref b198), .unset, .val (.int (1 : Int32)), .val (.int (1 : Int32))] []))
          refine own_st (fun _ k => XS.iload X203.here hx rfl (hb hby at_100) rfl k) ?_
          show own_Go p e below s _ _ _ (T203.setTop (mkF m 102 #[.val (.long p1), .second, .val (.long p2), .second, .val (.long p3), .second, .val (.long p4), .second, .val (.int p5), .val (.long p1), .second, .val (.long p4), .second, .val (.int ((XT.ushr p5 (2 : Int32)) &&& (3 : Int32))), .val (.ref b186), .val (.ref b198), .unset, .val (.int (1 : Int32)), .val (.int (1 : Int32))] [(.int (1 : Int32))]))
          refine own_st (fun _ k => XS.ifNo X203.here hx rfl (hb hby at_102) rfl (XT.i0_eq_f (by decide)) k) ?_
          show own_Go p e below s _ _ _ (T203.setTop (mkF m 105 #[.val (.long p1), .second, .val (.long p2), .second, .val (.long p3), .second, .val (.long p4), .second, .val (.int p5), .val (.long p1), .second, .val (.long p4), .second, .val (.int ((XT.ushr p5 (2 : Int32)) &&& (3 : Int32))), .val (.ref b186), .val (.ref b198), .unset, .val (.int (1 : Int32)), .val (.int (1 : Int32))] []))
          refine own_st (fun _ k => XT.iconstV X203.here hx rfl (1 : Int32) (hb hby at_105) (by decide) k) ?_
          show own_Go p e below s _ _ _ (T203.setTop (mkF m 106 #[.val (.long p1), .second, .val (.long p2), .second, .val (.long p3), .second, .val (.long p4), .second, .val (.int p5), .val (.long p1), .second, .val (.long p4), .second, .val (.int ((XT.ushr p5 (2 : Int32)) &&& (3 : Int32))), .val (.ref b186), .val (.ref b198), .unset, .val (.int (1 : Int32)), .val (.int (1 : Int32))] [(.int (1 : Int32))]))
          refine own_st (fun _ k => XS.goto X203.here hx rfl (pc0 := 106) (pc' := 110) rfl (hb hby at_106) (by decide) (by decide) k) ?_
          show own_Go p e below s _ _ _ (T203.setTop (mkF m 110 #[.val (.long p1), .second, .val (.long p2), .second, .val (.long p3), .second, .val (.long p4), .second, .val (.int p5), .val (.long p1), .second, .val (.long p4), .second, .val (.int ((XT.ushr p5 (2 : Int32)) &&& (3 : Int32))), .val (.ref b186), .val (.ref b198), .unset, .val (.int (1 : Int32)), .val (.int (1 : Int32))] [(.int (1 : Int32))]))
          refine own_st (fun _ k => XS.istore X203.here hx rfl (hb hby at_110) rfl (l' := #[.val (.long p1), .second, .val (.long p2), .second, .val (.long p3), .second, .val (.long p4), .second, .val (.int p5), .val (.long p1), .second, .val (.long p4), .second, .val (.int ((XT.ushr p5 (2 : Int32)) &&& (3 : Int32))), .val (.ref b186), .val (.ref b198), .val (.int (1 : Int32)), .val (.int (1 : Int32)), .val (.int (1 : Int32))]) rfl k) ?_
          show own_Go p e below s _ _ _ (T203.setTop (mkF m 112 #[.val (.long p1), .second, .val (.long p2), .second, .val (.long p3), .second, .val (.long p4), .second, .val (.int p5), .val (.long p1), .second, .val (.long p4), .second, .val (.int ((XT.ushr p5 (2 : Int32)) &&& (3 : Int32))), .val (.ref b186), .val (.ref b198), .val (.int (1 : Int32)), .val (.int (1 : Int32)), .val (.int (1 : Int32))] []))
          refine own_st (fun _ k => XS.goto X203.here hx rfl (pc0 := 112) (pc' := 155) rfl (hb hby at_112) (by decide) (by decide) k) ?_
          show own_Go p e below s _ _ _ (T203.setTop (mkF m 155 #[.val (.long p1), .second, .val (.long p2), .second, .val (.long p3), .second, .val (.long p4), .second, .val (.int p5), .val (.long p1), .second, .val (.long p4), .second, .val (.int ((XT.ushr p5 (2 : Int32)) &&& (3 : Int32))), .val (.ref b186), .val (.ref b198), .val (.int (1 : Int32)), .val (.int (1 : Int32)), .val (.int (1 : Int32))] []))
          refine own_st (fun _ k => XS.aload X203.here hx rfl (hb hby at_155) rfl rfl k) ?_
          show own_Go p e below s _ _ _ (T203.setTop (mkF m 157 #[.val (.long p1), .second, .val (.long p2), .second, .val (.long p3), .second, .val (.long p4), .second, .val (.int p5), .val (.long p1), .second, .val (.long p4), .second, .val (.int ((XT.ushr p5 (2 : Int32)) &&& (3 : Int32))), .val (.ref b186), .val (.ref b198), .val (.int (1 : Int32)), .val (.int (1 : Int32)), .val (.int (1 : Int32))] [(.ref b186)]))
          refine own_st (fun _ k => XS.aload X203.here hx rfl (hb hby at_157) rfl rfl k) ?_
          show own_Go p e below s _ _ _ (T203.setTop (mkF m 159 #[.val (.long p1), .second, .val (.long p2), .second, .val (.long p3), .second, .val (.long p4), .second, .val (.int p5), .val (.long p1), .second, .val (.long p4), .second, .val (.int ((XT.ushr p5 (2 : Int32)) &&& (3 : Int32))), .val (.ref b186), .val (.ref b198), .val (.int (1 : Int32)), .val (.int (1 : Int32)), .val (.int (1 : Int32))] [(.ref b198), (.ref b186)]))
          have F211 : Exa Z T203.heap b186 "com/example/epoch/epoch/protocol/record/AbortedTransaction" := ((q192.ext E198).keep K203)
          have ne212 : b186 ≠ b198 := Nat.ne_of_lt (Nat.lt_of_lt_of_le (Nat.lt_of_lt_of_le A186.lt K191.1) (Nat.le_of_eq g198.symm))
          have F213 : Fld Z T203.heap b186 "com/example/epoch/epoch/protocol/record/AbortedTransaction" "producerId" "J" (.long p1) := ((q193.ext E198).keep K203 (ninS ne212 nin0))
          have F214 : Fld Z T203.heap b186 "com/example/epoch/epoch/protocol/record/AbortedTransaction" "firstOffset" "J" (.long p2) := ((q194.ext E198).keep K203 (ninS ne212 nin0))
          obtain ⟨cq210, kq210, q210a, q210b, q210c⟩ := isOf hZ rfl F211
          obtain ⟨_, _, ⟨T210, L210, k210, n210⟩, -, X210, ⟨Lc210, hQ210, l210, y210, z210⟩, st210⟩ := X203.virtualBack hx (y := (⟨"com/example/epoch/epoch/protocol/record/AbortedTransaction", "equals", "(Ljava/lang/Object;)Z"⟩ : MethodName)) (z := (⟨"com/example/epoch/epoch/protocol/record/AbortedTransaction", "equals", "(Ljava/lang/Object;)Z"⟩ : MethodName)) hown (mvT hZ (hw _ (List.mem_of_getElem? (i := 13) rfl))) (mvT hZ (hw _ (List.mem_of_getElem? (i := 14) rfl))) (notFace_of_selects (args := #[]) (mvT hZ (hw _ (List.mem_of_getElem? (i := 16) rfl)))) (mvT hZ (hw _ (List.mem_of_getElem? (i := 16) rfl))) (mvT hZ (hw _ (List.mem_of_getElem? (i := 15) rfl))) (by decide) (backOf (W := 0) (own_rm_eqA l Z a0 hw [] b186 b198 p1 p2 p1 p4 T203.heap n0 Zs208 q204 F213 F214 q205 q206) hZ (hw _ (List.mem_of_getElem? (i := 17) rfl)) (hw _ (List.mem_of_getElem? (i := 2) rfl)) (by decide) (by decide)) q210a q210c (g := (mkF m 159 #[.val (.long p1), .second, .val (.long p2), .second, .val (.long p3), .second, .val (.long p4), .second, .val (.int p5), .val (.long p1), .second, .val (.long p4), .second, .val (.int ((XT.ushr p5 (2 : Int32)) &&& (3 : Int32))), .val (.ref b186), .val (.ref b198), .val (.int (1 : Int32)), .val (.int (1 : Int32)), .val (.int (1 : Int32))] [(.ref b198), (.ref b186)])) rfl (by rw [hml]; rfl) (Steps.refl _) (argsL := [(.ref b198)]) (rest := []) (lenOf own_pd3 rfl) rfl (by show 2 * 0 + _ ≤ _; exact Nat.le_of_eq rfl) (hb hby at_159) (fun _ _ => ⟨rfl, rfl, (by decide : 2 + 0 ≤ _), (by decide : 4 + 0 ≤ _)⟩)
          dsimp only [Pt.U, Pt.locs, Pt.cells, Pt.slots] at X210 l210 y210 z210 st210 hQ210
          subst l210 y210 z210
          obtain ⟨N210q, rfl, eh210⟩ := hQ210
          have N215 := Fr.app N207 N210q
          refine own_tr st210 ?_
          show own_Go p e below s _ _ _ (T210.setTop (mkF m 162 #[.val (.long p1), .second, .val (.long p2), .second, .val (.long p3), .second, .val (.long p4), .second, .val (.int p5), .val (.long p1), .second, .val (.long p4), .second, .val (.int ((XT.ushr p5 (2 : Int32)) &&& (3 : Int32))), .val (.ref b186), .val (.ref b198), .val (.int (1 : Int32)), .val (.int (1 : Int32)), .val (.int (1 : Int32))] [(.int (if p1 = p1 then (if p2 = p4 then (1 : Int32) else 0) else 0))]))
          refine own_st (fun _ k => XS.iload X210.here hx rfl (hb hby at_162) rfl k) ?_
          show own_Go p e below s _ _ _ (T210.setTop (mkF m 164 #[.val (.long p1), .second, .val (.long p2), .second, .val (.long p3), .second, .val (.long p4), .second, .val (.int p5), .val (.long p1), .second, .val (.long p4), .second, .val (.int ((XT.ushr p5 (2 : Int32)) &&& (3 : Int32))), .val (.ref b186), .val (.ref b198), .val (.int (1 : Int32)), .val (.int (1 : Int32)), .val (.int (1 : Int32))] [(.int (1 : Int32)), (.int (if p1 = p1 then (if p2 = p4 then (1 : Int32) else 0) else 0))]))
          refine own_st (fun _ k => XS.icmpNo X210.here hx rfl (hb hby at_164) rfl (XT.ii_ne_f (by simp [hc209])) k) ?_
          show own_Go p e below s _ _ _ (T210.setTop (mkF m 167 #[.val (.long p1), .second, .val (.long p2), .second, .val (.long p3), .second, .val (.long p4), .second, .val (.int p5), .val (.long p1), .second, .val (.long p4), .second, .val (.int ((XT.ushr p5 (2 : Int32)) &&& (3 : Int32))), .val (.ref b186), .val (.ref b198), .val (.int (1 : Int32)), .val (.int (1 : Int32)), .val (.int (1 : Int32))] []))
          refine own_st (fun _ k => XT.iconstV X210.here hx rfl (1 : Int32) (hb hby at_167) (by decide) k) ?_
          show own_Go p e below s _ _ _ (T210.setTop (mkF m 168 #[.val (.long p1), .second, .val (.long p2), .second, .val (.long p3), .second, .val (.long p4), .second, .val (.int p5), .val (.long p1), .second, .val (.long p4), .second, .val (.int ((XT.ushr p5 (2 : Int32)) &&& (3 : Int32))), .val (.ref b186), .val (.ref b198), .val (.int (1 : Int32)), .val (.int (1 : Int32)), .val (.int (1 : Int32))] [(.int (1 : Int32))]))
          refine own_st (fun _ k => XS.goto X210.here hx rfl (pc0 := 168) (pc' := 172) rfl (hb hby at_168) (by decide) (by decide) k) ?_
          show own_Go p e below s _ _ _ (T210.setTop (mkF m 172 #[.val (.long p1), .second, .val (.long p2), .second, .val (.long p3), .second, .val (.long p4), .second, .val (.int p5), .val (.long p1), .second, .val (.long p4), .second, .val (.int ((XT.ushr p5 (2 : Int32)) &&& (3 : Int32))), .val (.ref b186), .val (.ref b198), .val (.int (1 : Int32)), .val (.int (1 : Int32)), .val (.int (1 : Int32))] [(.int (1 : Int32))]))
          refine own_retN X210 hx hlk Bd.returns (t := .boolean) (z' := (1 : Int32)) (by simp) (by decide) (hb hby at_172) (by decide) (by decide) ?_
          rw [eh210]
          exact ⟨N215, rfl⟩
        · refine own_st (fun _ k => XS.ifYes X203.here hx rfl (pc0 := 85) (pc' := 92) rfl (hb hby at_85) rfl (XT.ll_ne_t hc209) (by decide) (by decide) k) ?_
          show own_Go p e below s _ _ _ (T203.setTop (mkF m 92 #[.val (.long p1), .second, .val (.long p2), .second, .val (.long p3), .second, .val (.long p4), .second, .val (.int p5), .val (.long p1), .second, .val (.long p4), .second, .val (.int ((XT.ushr p5 (2 : Int32)) &&& (3 : Int32))), .val (.ref b186), .val (.ref b198), .unset, .val (.int (1 : Int32)), .unset] []))
          refine own_st (fun _ k => XT.iconstV X203.here hx rfl (0 : Int32) (hb hby at_92) (by decide) k) ?_
          show own_Go p e below s _ _ _ (T203.setTop (mkF m 93 #[.val (.long p1), .second, .val (.long p2), .second, .val (.long p3), .second, .val (.long p4), .second, .val (.int p5), .val (.long p1), .second, .val (.long p4), .second, .val (.int ((XT.ushr p5 (2 : Int32)) &&& (3 : Int32))), .val (.ref b186), .val (.ref b198), .unset, .val (.int (1 : Int32)), .unset] [(.int (0 : Int32))]))
          refine own_st (fun _ k => XS.istore X203.here hx rfl (hb hby at_93) rfl (l' := #[.val (.long p1), .second, .val (.long p2), .second, .val (.long p3), .second, .val (.long p4), .second, .val (.int p5), .val (.long p1), .second, .val (.long p4), .second, .val (.int ((XT.ushr p5 (2 : Int32)) &&& (3 : Int32))), .val (.ref b186), .val (.ref b198), .unset, .val (.int (1 : Int32)), .val (.int (0 : Int32))]) rfl k) ?_
          show own_Go p e below s _ _ _ (T203.setTop (mkF m 95 #[.val (.long p1), .second, .val (.long p2), .second, .val (.long p3), .second, .val (.long p4), .second, .val (.int p5), .val (.long p1), .second, .val (.long p4), .second, .val (.int ((XT.ushr p5 (2 : Int32)) &&& (3 : Int32))), .val (.ref b186), .val (.ref b198), .unset, .val (.int (1 : Int32)), .val (.int (0 : Int32))] []))
          refine own_st (fun _ k => XS.iload X203.here hx rfl (hb hby at_95) rfl k) ?_
          show own_Go p e below s _ _ _ (T203.setTop (mkF m 97 #[.val (.long p1), .second, .val (.long p2), .second, .val (.long p3), .second, .val (.long p4), .second, .val (.int p5), .val (.long p1), .second, .val (.long p4), .second, .val (.int ((XT.ushr p5 (2 : Int32)) &&& (3 : Int32))), .val (.ref b186), .val (.ref b198), .unset, .val (.int (1 : Int32)), .val (.int (0 : Int32))] [(.int (1 : Int32))]))
          refine own_st (fun _ k => XS.ifNo X203.here hx rfl (hb hby at_97) rfl (XT.i0_eq_f (by decide)) k) ?_
          show own_Go p e below s _ _ _ (T203.setTop (mkF m 100 #[.val (.long p1), .second, .val (.long p2), .second, .val (.long p3), .second, .val (.long p4), .second, .val (.int p5), .val (.long p1), .second, .val (.long p4), .second, .val (.int ((XT.ushr p5 (2 : Int32)) &&& (3 : Int32))), .val (.ref b186), .val (.ref b198), .unset, .val (.int (1 : Int32)), .val (.int (0 : Int32))] []))
          refine own_st (fun _ k => XS.iload X203.here hx rfl (hb hby at_100) rfl k) ?_
          show own_Go p e below s _ _ _ (T203.setTop (mkF m 102 #[.val (.long p1), .second, .val (.long p2), .second, .val (.long p3), .second, .val (.long p4), .second, .val (.int p5), .val (.long p1), .second, .val (.long p4), .second, .val (.int ((XT.ushr p5 (2 : Int32)) &&& (3 : Int32))), .val (.ref b186), .val (.ref b198), .unset, .val (.int (1 : Int32)), .val (.int (0 : Int32))] [(.int (0 : Int32))]))
          refine own_st (fun _ k => XS.ifYes X203.here hx rfl (pc0 := 102) (pc' := 109) rfl (hb hby at_102) rfl (XT.i0_eq_t (by decide)) (by decide) (by decide) k) ?_
          show own_Go p e below s _ _ _ (T203.setTop (mkF m 109 #[.val (.long p1), .second, .val (.long p2), .second, .val (.long p3), .second, .val (.long p4), .second, .val (.int p5), .val (.long p1), .second, .val (.long p4), .second, .val (.int ((XT.ushr p5 (2 : Int32)) &&& (3 : Int32))), .val (.ref b186), .val (.ref b198), .unset, .val (.int (1 : Int32)), .val (.int (0 : Int32))] []))
          refine own_st (fun _ k => XT.iconstV X203.here hx rfl (0 : Int32) (hb hby at_109) (by decide) k) ?_
          show own_Go p e below s _ _ _ (T203.setTop (mkF m 110 #[.val (.long p1), .second, .val (.long p2), .second, .val (.long p3), .second, .val (.long p4), .second, .val (.int p5), .val (.long p1), .second, .val (.long p4), .second, .val (.int ((XT.ushr p5 (2 : Int32)) &&& (3 : Int32))), .val (.ref b186), .val (.ref b198), .unset, .val (.int (1 : Int32)), .val (.int (0 : Int32))] [(.int (0 : Int32))]))
          refine own_st (fun _ k => XS.istore X203.here hx rfl (hb hby at_110) rfl (l' := #[.val (.long p1), .second, .val (.long p2), .second, .val (.long p3), .second, .val (.long p4), .second, .val (.int p5), .val (.long p1), .second, .val (.long p4), .second, .val (.int ((XT.ushr p5 (2 : Int32)) &&& (3 : Int32))), .val (.ref b186), .val (.ref b198), .val (.int (0 : Int32)), .val (.int (1 : Int32)), .val (.int (0 : Int32))]) rfl k) ?_
          show own_Go p e below s _ _ _ (T203.setTop (mkF m 112 #[.val (.long p1), .second, .val (.long p2), .second, .val (.long p3), .second, .val (.long p4), .second, .val (.int p5), .val (.long p1), .second, .val (.long p4), .second, .val (.int ((XT.ushr p5 (2 : Int32)) &&& (3 : Int32))), .val (.ref b186), .val (.ref b198), .val (.int (0 : Int32)), .val (.int (1 : Int32)), .val (.int (0 : Int32))] []))
          refine own_st (fun _ k => XS.goto X203.here hx rfl (pc0 := 112) (pc' := 155) rfl (hb hby at_112) (by decide) (by decide) k) ?_
          show own_Go p e below s _ _ _ (T203.setTop (mkF m 155 #[.val (.long p1), .second, .val (.long p2), .second, .val (.long p3), .second, .val (.long p4), .second, .val (.int p5), .val (.long p1), .second, .val (.long p4), .second, .val (.int ((XT.ushr p5 (2 : Int32)) &&& (3 : Int32))), .val (.ref b186), .val (.ref b198), .val (.int (0 : Int32)), .val (.int (1 : Int32)), .val (.int (0 : Int32))] []))
          refine own_st (fun _ k => XS.aload X203.here hx rfl (hb hby at_155) rfl rfl k) ?_
          show own_Go p e below s _ _ _ (T203.setTop (mkF m 157 #[.val (.long p1), .second, .val (.long p2), .second, .val (.long p3), .second, .val (.long p4), .second, .val (.int p5), .val (.long p1), .second, .val (.long p4), .second, .val (.int ((XT.ushr p5 (2 : Int32)) &&& (3 : Int32))), .val (.ref b186), .val (.ref b198), .val (.int (0 : Int32)), .val (.int (1 : Int32)), .val (.int (0 : Int32))] [(.ref b186)]))
          refine own_st (fun _ k => XS.aload X203.here hx rfl (hb hby at_157) rfl rfl k) ?_
          show own_Go p e below s _ _ _ (T203.setTop (mkF m 159 #[.val (.long p1), .second, .val (.long p2), .second, .val (.long p3), .second, .val (.long p4), .second, .val (.int p5), .val (.long p1), .second, .val (.long p4), .second, .val (.int ((XT.ushr p5 (2 : Int32)) &&& (3 : Int32))), .val (.ref b186), .val (.ref b198), .val (.int (0 : Int32)), .val (.int (1 : Int32)), .val (.int (0 : Int32))] [(.ref b198), (.ref b186)]))
          have F217 : Exa Z T203.heap b186 "com/example/epoch/epoch/protocol/record/AbortedTransaction" := ((q192.ext E198).keep K203)
          have ne218 : b186 ≠ b198 := Nat.ne_of_lt (Nat.lt_of_lt_of_le (Nat.lt_of_lt_of_le A186.lt K191.1) (Nat.le_of_eq g198.symm))
          have F219 : Fld Z T203.heap b186 "com/example/epoch/epoch/protocol/record/AbortedTransaction" "producerId" "J" (.long p1) := ((q193.ext E198).keep K203 (ninS ne218 nin0))
          have F220 : Fld Z T203.heap b186 "com/example/epoch/epoch/protocol/record/AbortedTransaction" "firstOffset" "J" (.long p2) := ((q194.ext E198).keep K203 (ninS ne218 nin0))
          obtain ⟨cq216, kq216, q216a, q216b, q216c⟩ := isOf hZ rfl F217
          obtain ⟨_, _, ⟨T216, L216, k216, n216⟩, -, X216, ⟨Lc216, hQ216, l216, y216, z216⟩, st216⟩ := X203.virtualBack hx (y := (⟨"com/example/epoch/epoch/protocol/record/AbortedTransaction", "equals", "(Ljava/lang/Object;)Z"⟩ : MethodName)) (z := (⟨"com/example/epoch/epoch/protocol/record/AbortedTransaction", "equals", "(Ljava/lang/Object;)Z"⟩ : MethodName)) hown (mvT hZ (hw _ (List.mem_of_getElem? (i := 13) rfl))) (mvT hZ (hw _ (List.mem_of_getElem? (i := 14) rfl))) (notFace_of_selects (args := #[]) (mvT hZ (hw _ (List.mem_of_getElem? (i := 16) rfl)))) (mvT hZ (hw _ (List.mem_of_getElem? (i := 16) rfl))) (mvT hZ (hw _ (List.mem_of_getElem? (i := 15) rfl))) (by decide) (backOf (W := 0) (own_rm_eqA l Z a0 hw [] b186 b198 p1 p2 p1 p4 T203.heap n0 Zs208 q204 F219 F220 q205 q206) hZ (hw _ (List.mem_of_getElem? (i := 17) rfl)) (hw _ (List.mem_of_getElem? (i := 2) rfl)) (by decide) (by decide)) q216a q216c (g := (mkF m 159 #[.val (.long p1), .second, .val (.long p2), .second, .val (.long p3), .second, .val (.long p4), .second, .val (.int p5), .val (.long p1), .second, .val (.long p4), .second, .val (.int ((XT.ushr p5 (2 : Int32)) &&& (3 : Int32))), .val (.ref b186), .val (.ref b198), .val (.int (0 : Int32)), .val (.int (1 : Int32)), .val (.int (0 : Int32))] [(.ref b198), (.ref b186)])) rfl (by rw [hml]; rfl) (Steps.refl _) (argsL := [(.ref b198)]) (rest := []) (lenOf own_pd3 rfl) rfl (by show 2 * 0 + _ ≤ _; exact Nat.le_of_eq rfl) (hb hby at_159) (fun _ _ => ⟨rfl, rfl, (by decide : 2 + 0 ≤ _), (by decide : 4 + 0 ≤ _)⟩)
          dsimp only [Pt.U, Pt.locs, Pt.cells, Pt.slots] at X216 l216 y216 z216 st216 hQ216
          subst l216 y216 z216
          obtain ⟨N216q, rfl, eh216⟩ := hQ216
          have N221 := Fr.app N207 N216q
          refine own_tr st216 ?_
          show own_Go p e below s _ _ _ (T216.setTop (mkF m 162 #[.val (.long p1), .second, .val (.long p2), .second, .val (.long p3), .second, .val (.long p4), .second, .val (.int p5), .val (.long p1), .second, .val (.long p4), .second, .val (.int ((XT.ushr p5 (2 : Int32)) &&& (3 : Int32))), .val (.ref b186), .val (.ref b198), .val (.int (0 : Int32)), .val (.int (1 : Int32)), .val (.int (0 : Int32))] [(.int (if p1 = p1 then (if p2 = p4 then (1 : Int32) else 0) else 0))]))
          refine own_st (fun _ k => XS.iload X216.here hx rfl (hb hby at_162) rfl k) ?_
          show own_Go p e below s _ _ _ (T216.setTop (mkF m 164 #[.val (.long p1), .second, .val (.long p2), .second, .val (.long p3), .second, .val (.long p4), .second, .val (.int p5), .val (.long p1), .second, .val (.long p4), .second, .val (.int ((XT.ushr p5 (2 : Int32)) &&& (3 : Int32))), .val (.ref b186), .val (.ref b198), .val (.int (0 : Int32)), .val (.int (1 : Int32)), .val (.int (0 : Int32))] [(.int (0 : Int32)), (.int (if p1 = p1 then (if p2 = p4 then (1 : Int32) else 0) else 0))]))
          refine own_st (fun _ k => XS.icmpNo X216.here hx rfl (hb hby at_164) rfl (XT.ii_ne_f (by simp [hc209])) k) ?_
          show own_Go p e below s _ _ _ (T216.setTop (mkF m 167 #[.val (.long p1), .second, .val (.long p2), .second, .val (.long p3), .second, .val (.long p4), .second, .val (.int p5), .val (.long p1), .second, .val (.long p4), .second, .val (.int ((XT.ushr p5 (2 : Int32)) &&& (3 : Int32))), .val (.ref b186), .val (.ref b198), .val (.int (0 : Int32)), .val (.int (1 : Int32)), .val (.int (0 : Int32))] []))
          refine own_st (fun _ k => XT.iconstV X216.here hx rfl (1 : Int32) (hb hby at_167) (by decide) k) ?_
          show own_Go p e below s _ _ _ (T216.setTop (mkF m 168 #[.val (.long p1), .second, .val (.long p2), .second, .val (.long p3), .second, .val (.long p4), .second, .val (.int p5), .val (.long p1), .second, .val (.long p4), .second, .val (.int ((XT.ushr p5 (2 : Int32)) &&& (3 : Int32))), .val (.ref b186), .val (.ref b198), .val (.int (0 : Int32)), .val (.int (1 : Int32)), .val (.int (0 : Int32))] [(.int (1 : Int32))]))
          refine own_st (fun _ k => XS.goto X216.here hx rfl (pc0 := 168) (pc' := 172) rfl (hb hby at_168) (by decide) (by decide) k) ?_
          show own_Go p e below s _ _ _ (T216.setTop (mkF m 172 #[.val (.long p1), .second, .val (.long p2), .second, .val (.long p3), .second, .val (.long p4), .second, .val (.int p5), .val (.long p1), .second, .val (.long p4), .second, .val (.int ((XT.ushr p5 (2 : Int32)) &&& (3 : Int32))), .val (.ref b186), .val (.ref b198), .val (.int (0 : Int32)), .val (.int (1 : Int32)), .val (.int (0 : Int32))] [(.int (1 : Int32))]))
          refine own_retN X216 hx hlk Bd.returns (t := .boolean) (z' := (1 : Int32)) (by simp) (by decide) (hb hby at_172) (by decide) (by decide) ?_
          rw [eh216]
          exact ⟨N221, rfl⟩
      · refine own_st (fun _ k => XS.ifYes X191.here hx rfl (pc0 := 51) (pc' := 115) rfl (hb hby at_51) rfl (XT.i0_ne_t hc197) (by decide) (by decide) k) ?_
        show own_Go p e below s _ _ _ (T191.setTop (mkF m 115 #[.val (.long p1), .second, .val (.long p2), .second, .val (.long p3), .second, .val (.long p4), .second, .val (.int p5), .val (.long p1), .second, .val (.long p4), .second, .val (.int ((XT.ushr p5 (2 : Int32)) &&& (3 : Int32))), .val (.ref b186), .unset, .unset, .unset, .unset] []))
        refine own_st (fun _ k => XS.iload X191.here hx rfl (hb hby at_115) rfl k) ?_
        show own_Go p e below s _ _ _ (T191.setTop (mkF m 117 #[.val (.long p1), .second, .val (.long p2), .second, .val (.long p3), .second, .val (.long p4), .second, .val (.int p5), .val (.long p1), .second, .val (.long p4), .second, .val (.int ((XT.ushr p5 (2 : Int32)) &&& (3 : Int32))), .val (.ref b186), .unset, .unset, .unset, .unset] [(.int ((XT.ushr p5 (2 : Int32)) &&& (3 : Int32)))]))
        refine own_st (fun _ k => XT.iconstV X191.here hx rfl (1 : Int32) (hb hby at_117) (by decide) k) ?_
        show own_Go p e below s _ _ _ (T191.setTop (mkF m 118 #[.val (.long p1), .second, .val (.long p2), .second, .val (.long p3), .second, .val (.long p4), .second, .val (.int p5), .val (.long p1), .second, .val (.long p4), .second, .val (.int ((XT.ushr p5 (2 : Int32)) &&& (3 : Int32))), .val (.ref b186), .unset, .unset, .unset, .unset] [(.int (1 : Int32)), (.int ((XT.ushr p5 (2 : Int32)) &&& (3 : Int32)))]))
        by_cases hc222 : ((XT.ushr p5 (2 : Int32)) &&& (3 : Int32)) = (1 : Int32)
        · refine own_st (fun _ k => XS.icmpNo X191.here hx rfl (hb hby at_118) rfl (XT.ii_ne_f hc222) k) ?_
          show own_Go p e below s _ _ _ (T191.setTop (mkF m 121 #[.val (.long p1), .second, .val (.long p2), .second, .val (.long p3), .second, .val (.long p4), .second, .val (.int p5), .val (.long p1), .second, .val (.long p4), .second, .val (.int ((XT.ushr p5 (2 : Int32)) &&& (3 : Int32))), .val (.ref b186), .unset, .unset, .unset, .unset] []))
          refine own_st (fun _ k => XS.aconstNull X191.here hx rfl (hb hby at_121) k) ?_
          show own_Go p e below s _ _ _ (T191.setTop (mkF m 122 #[.val (.long p1), .second, .val (.long p2), .second, .val (.long p3), .second, .val (.long p4), .second, .val (.int p5), .val (.long p1), .second, .val (.long p4), .second, .val (.int ((XT.ushr p5 (2 : Int32)) &&& (3 : Int32))), .val (.ref b186), .unset, .unset, .unset, .unset] [.null]))
          refine own_st (fun _ k => XS.astore X191.here hx rfl (hb hby at_122) rfl rfl (l' := #[.val (.long p1), .second, .val (.long p2), .second, .val (.long p3), .second, .val (.long p4), .second, .val (.int p5), .val (.long p1), .second, .val (.long p4), .second, .val (.int ((XT.ushr p5 (2 : Int32)) &&& (3 : Int32))), .val (.ref b186), .val .null, .unset, .unset, .unset]) rfl k) ?_
          show own_Go p e below s _ _ _ (T191.setTop (mkF m 124 #[.val (.long p1), .second, .val (.long p2), .second, .val (.long p3), .second, .val (.long p4), .second, .val (.int p5), .val (.long p1), .second, .val (.long p4), .second, .val (.int ((XT.ushr p5 (2 : Int32)) &&& (3 : Int32))), .val (.ref b186), .val .null, .unset, .unset, .unset] []))
          refine own_st (fun _ k => XT.iconstV X191.here hx rfl (0 : Int32) (hb hby at_124) (by decide) k) ?_
          show own_Go p e below s _ _ _ (T191.setTop (mkF m 125 #[.val (.long p1), .second, .val (.long p2), .second, .val (.long p3), .second, .val (.long p4), .second, .val (.int p5), .val (.long p1), .second, .val (.long p4), .second, .val (.int ((XT.ushr p5 (2 : Int32)) &&& (3 : Int32))), .val (.ref b186), .val .null, .unset, .unset, .unset] [(.int (0 : Int32))]))
          refine own_st (fun _ k => XS.istore X191.here hx rfl (hb hby at_125) rfl (l' := #[.val (.long p1), .second, .val (.long p2), .second, .val (.long p3), .second, .val (.long p4), .second, .val (.int p5), .val (.long p1), .second, .val (.long p4), .second, .val (.int ((XT.ushr p5 (2 : Int32)) &&& (3 : Int32))), .val (.ref b186), .val .null, .val (.int (0 : Int32)), .unset, .unset]) rfl k) ?_
          show own_Go p e below s _ _ _ (T191.setTop (mkF m 127 #[.val (.long p1), .second, .val (.long p2), .second, .val (.long p3), .second, .val (.long p4), .second, .val (.int p5), .val (.long p1), .second, .val (.long p4), .second, .val (.int ((XT.ushr p5 (2 : Int32)) &&& (3 : Int32))), .val (.ref b186), .val .null, .val (.int (0 : Int32)), .unset, .unset] []))
          refine own_st (fun _ k => XS.goto X191.here hx rfl (pc0 := 127) (pc' := 155) rfl (hb hby at_127) (by decide) (by decide) k) ?_
          show own_Go p e below s _ _ _ (T191.setTop (mkF m 155 #[.val (.long p1), .second, .val (.long p2), .second, .val (.long p3), .second, .val (.long p4), .second, .val (.int p5), .val (.long p1), .second, .val (.long p4), .second, .val (.int ((XT.ushr p5 (2 : Int32)) &&& (3 : Int32))), .val (.ref b186), .val .null, .val (.int (0 : Int32)), .unset, .unset] []))
          refine own_st (fun _ k => XS.aload X191.here hx rfl (hb hby at_155) rfl rfl k) ?_
          show own_Go p e below s _ _ _ (T191.setTop (mkF m 157 #[.val (.long p1), .second, .val (.long p2), .second, .val (.long p3), .second, .val (.long p4), .second, .val (.int p5), .val (.long p1), .second, .val (.long p4), .second, .val (.int ((XT.ushr p5 (2 : Int32)) &&& (3 : Int32))), .val (.ref b186), .val .null, .val (.int (0 : Int32)), .unset, .unset] [(.ref b186)]))
          refine own_st (fun _ k => XS.aload X191.here hx rfl (hb hby at_157) rfl rfl k) ?_
          show own_Go p e below s _ _ _ (T191.setTop (mkF m 159 #[.val (.long p1), .second, .val (.long p2), .second, .val (.long p3), .second, .val (.long p4), .second, .val (.int p5), .val (.long p1), .second, .val (.long p4), .second, .val (.int ((XT.ushr p5 (2 : Int32)) &&& (3 : Int32))), .val (.ref b186), .val .null, .val (.int (0 : Int32)), .unset, .unset] [.null, (.ref b186)]))
          obtain ⟨cq223, kq223, q223a, q223b, q223c⟩ := isOf hZ rfl q192
          obtain ⟨_, _, ⟨T223, L223, k223, n223⟩, -, X223, ⟨Lc223, hQ223, l223, y223, z223⟩, st223⟩ := X191.virtualBack hx (y := (⟨"com/example/epoch/epoch/protocol/record/AbortedTransaction", "equals", "(Ljava/lang/Object;)Z"⟩ : MethodName)) (z := (⟨"com/example/epoch/epoch/protocol/record/AbortedTransaction", "equals", "(Ljava/lang/Object;)Z"⟩ : MethodName)) hown (mvT hZ (hw _ (List.mem_of_getElem? (i := 13) rfl))) (mvT hZ (hw _ (List.mem_of_getElem? (i := 14) rfl))) (notFace_of_selects (args := #[]) (mvT hZ (hw _ (List.mem_of_getElem? (i := 16) rfl)))) (mvT hZ (hw _ (List.mem_of_getElem? (i := 16) rfl))) (mvT hZ (hw _ (List.mem_of_getElem? (i := 15) rfl))) (by decide) (backOf (W := 0) (own_rm_eqN l Z a0 hw [] b186 T191.heap n0 Zs196 ) hZ (hw _ (List.mem_of_getElem? (i := 17) rfl)) (hw _ (List.mem_of_getElem? (i := 2) rfl)) (by decide) (by decide)) q223a q223c (g := (mkF m 159 #[.val (.long p1), .second, .val (.long p2), .second, .val (.long p3), .second, .val (.long p4), .second, .val (.int p5), .val (.long p1), .second, .val (.long p4), .second, .val (.int ((XT.ushr p5 (2 : Int32)) &&& (3 : Int32))), .val (.ref b186), .val .null, .val (.int (0 : Int32)), .unset, .unset] [.null, (.ref b186)])) rfl (by rw [hml]; rfl) (Steps.refl _) (argsL := [.null]) (rest := []) (lenOf own_pd3 rfl) rfl (by show 2 * 0 + _ ≤ _; exact Nat.le_of_eq rfl) (hb hby at_159) (fun _ _ => ⟨rfl, rfl, (by decide : 1 + 0 ≤ _), (by decide : 2 + 0 ≤ _)⟩)
          dsimp only [Pt.U, Pt.locs, Pt.cells, Pt.slots] at X223 l223 y223 z223 st223 hQ223
          subst l223 y223 z223
          obtain ⟨N223q, rfl, eh223⟩ := hQ223
          have N224 := Fr.app N195 N223q
          refine own_tr st223 ?_
          show own_Go p e below s _ _ _ (T223.setTop (mkF m 162 #[.val (.long p1), .second, .val (.long p2), .second, .val (.long p3), .second, .val (.long p4), .second, .val (.int p5), .val (.long p1), .second, .val (.long p4), .second, .val (.int ((XT.ushr p5 (2 : Int32)) &&& (3 : Int32))), .val (.ref b186), .val .null, .val (.int (0 : Int32)), .unset, .unset] [(.int (0 : Int32))]))
          refine own_st (fun _ k => XS.iload X223.here hx rfl (hb hby at_162) rfl k) ?_
          show own_Go p e below s _ _ _ (T223.setTop (mkF m 164 #[.val (.long p1), .second, .val (.long p2), .second, .val (.long p3), .second, .val (.long p4), .second, .val (.int p5), .val (.long p1), .second, .val (.long p4), .second, .val (.int ((XT.ushr p5 (2 : Int32)) &&& (3 : Int32))), .val (.ref b186), .val .null, .val (.int (0 : Int32)), .unset, .unset] [(.int (0 : Int32)), (.int (0 : Int32))]))
          refine own_st (fun _ k => XS.icmpNo X223.here hx rfl (hb hby at_164) rfl (XT.ii_ne_f rfl) k) ?_
          show own_Go p e below s _ _ _ (T223.setTop (mkF m 167 #[.val (.long p1), .second, .val (.long p2), .second, .val (.long p3), .second, .val (.long p4), .second, .val (.int p5), .val (.long p1), .second, .val (.long p4), .second, .val (.int ((XT.ushr p5 (2 : Int32)) &&& (3 : Int32))), .val (.ref b186), .val .null, .val (.int (0 : Int32)), .unset, .unset] []))
          refine own_st (fun _ k => XT.iconstV X223.here hx rfl (1 : Int32) (hb hby at_167) (by decide) k) ?_
          show own_Go p e below s _ _ _ (T223.setTop (mkF m 168 #[.val (.long p1), .second, .val (.long p2), .second, .val (.long p3), .second, .val (.long p4), .second, .val (.int p5), .val (.long p1), .second, .val (.long p4), .second, .val (.int ((XT.ushr p5 (2 : Int32)) &&& (3 : Int32))), .val (.ref b186), .val .null, .val (.int (0 : Int32)), .unset, .unset] [(.int (1 : Int32))]))
          refine own_st (fun _ k => XS.goto X223.here hx rfl (pc0 := 168) (pc' := 172) rfl (hb hby at_168) (by decide) (by decide) k) ?_
          show own_Go p e below s _ _ _ (T223.setTop (mkF m 172 #[.val (.long p1), .second, .val (.long p2), .second, .val (.long p3), .second, .val (.long p4), .second, .val (.int p5), .val (.long p1), .second, .val (.long p4), .second, .val (.int ((XT.ushr p5 (2 : Int32)) &&& (3 : Int32))), .val (.ref b186), .val .null, .val (.int (0 : Int32)), .unset, .unset] [(.int (1 : Int32))]))
          refine own_retN X223 hx hlk Bd.returns (t := .boolean) (z' := (1 : Int32)) (by simp) (by decide) (hb hby at_172) (by decide) (by decide) ?_
          rw [eh223]
          exact ⟨N224, rfl⟩
        · refine own_st (fun _ k => XS.icmpYes X191.here hx rfl (pc0 := 118) (pc' := 130) rfl (hb hby at_118) rfl (XT.ii_ne_t hc222) (by decide) (by decide) k) ?_
          show own_Go p e below s _ _ _ (T191.setTop (mkF m 130 #[.val (.long p1), .second, .val (.long p2), .second, .val (.long p3), .second, .val (.long p4), .second, .val (.int p5), .val (.long p1), .second, .val (.long p4), .second, .val (.int ((XT.ushr p5 (2 : Int32)) &&& (3 : Int32))), .val (.ref b186), .unset, .unset, .unset, .unset] []))
          refine own_st (fun _ k => XS.iload X191.here hx rfl (hb hby at_130) rfl k) ?_
          show own_Go p e below s _ _ _ (T191.setTop (mkF m 132 #[.val (.long p1), .second, .val (.long p2), .second, .val (.long p3), .second, .val (.long p4), .second, .val (.int p5), .val (.long p1), .second, .val (.long p4), .second, .val (.int ((XT.ushr p5 (2 : Int32)) &&& (3 : Int32))), .val (.ref b186), .unset, .unset, .unset, .unset] [(.int ((XT.ushr p5 (2 : Int32)) &&& (3 : Int32)))]))
          refine own_st (fun _ k => XT.iconstV X191.here hx rfl (2 : Int32) (hb hby at_132) (by decide) k) ?_
          show own_Go p e below s _ _ _ (T191.setTop (mkF m 133 #[.val (.long p1), .second, .val (.long p2), .second, .val (.long p3), .second, .val (.long p4), .second, .val (.int p5), .val (.long p1), .second, .val (.long p4), .second, .val (.int ((XT.ushr p5 (2 : Int32)) &&& (3 : Int32))), .val (.ref b186), .unset, .unset, .unset, .unset] [(.int (2 : Int32)), (.int ((XT.ushr p5 (2 : Int32)) &&& (3 : Int32)))]))
          by_cases hc225 : ((XT.ushr p5 (2 : Int32)) &&& (3 : Int32)) = (2 : Int32)
          · refine own_st (fun _ k => XS.icmpNo X191.here hx rfl (hb hby at_133) rfl (XT.ii_ne_f hc225) k) ?_
            show own_Go p e below s _ _ _ (T191.setTop (mkF m 136 #[.val (.long p1), .second, .val (.long p2), .second, .val (.long p3), .second, .val (.long p4), .second, .val (.int p5), .val (.long p1), .second, .val (.long p4), .second, .val (.int ((XT.ushr p5 (2 : Int32)) &&& (3 : Int32))), .val (.ref b186), .unset, .unset, .unset, .unset] []))
            refine own_st (fun _ k => XT.lloadN X191.here hx rfl (hb hby at_136) rfl k) ?_
            show own_Go p e below s _ _ _ (T191.setTop (mkF m 137 #[.val (.long p1), .second, .val (.long p2), .second, .val (.long p3), .second, .val (.long p4), .second, .val (.int p5), .val (.long p1), .second, .val (.long p4), .second, .val (.int ((XT.ushr p5 (2 : Int32)) &&& (3 : Int32))), .val (.ref b186), .unset, .unset, .unset, .unset] [(.long p1)]))
            have O227 : Old Z n0 T191.heap := ((O0.ext E186).keep K191 (allS g188 all0))
            obtain ⟨_, _, ⟨T226, L226, k226, n226⟩, -, X226, ⟨Lc226, hQ226, l226, y226, z226⟩, st226⟩ := Jvm.LawKit.callS X191 hx (y := (⟨"java/lang/Long", "valueOf", "(J)Ljava/lang/Long;"⟩ : MethodName)) hown (mvT hZ (hw _ (List.mem_of_getElem? (i := 20) rfl))) (mvT hZ (hw _ (List.mem_of_getElem? (i := 21) rfl))) (mvT hZ (hw _ (List.mem_of_getElem? (i := 22) rfl))) (mvT hZ (hw _ (List.mem_of_getElem? (i := 23) rfl))) (by decide) (backOf (W := 0) (own_rm_valueOfJ l Z a0 hw [] p1 a_cacheJ T191.heap n0 Zs196 O227 S_cacheJ BxJ) hZ (hw _ (List.mem_of_getElem? (i := 23) rfl)) (hw _ (List.mem_of_getElem? (i := 22) rfl)) (by decide) (by decide)) (g := (mkF m 137 #[.val (.long p1), .second, .val (.long p2), .second, .val (.long p3), .second, .val (.long p4), .second, .val (.int p5), .val (.long p1), .second, .val (.long p4), .second, .val (.int ((XT.ushr p5 (2 : Int32)) &&& (3 : Int32))), .val (.ref b186), .unset, .unset, .unset, .unset] [(.long p1)])) rfl (by rw [hml]; rfl) (argsL := [(.long p1)]) (rest := []) (lenOf own_pd4 rfl) rfl (by show 2 * 0 + _ ≤ _; exact Nat.le_of_eq rfl) (hb hby at_137) (fun _ _ => ⟨rfl, rfl, (by decide : 1 + 1 ≤ _), (by decide : 2 + 1 ≤ _)⟩)
            dsimp only [Pt.U, Pt.locs, Pt.cells, Pt.slots] at X226 l226 y226 z226 st226 hQ226
            subst l226 y226 z226
            obtain ⟨x228, N226q, rfl, K226, q229, q230⟩ := hQ226
            have N231 := Fr.app N195 N226q
            refine own_st st226 ?_
            have Zs232 : n0 ≤ T226.heap.size := Nat.le_trans Zs196 K226.1
            show own_Go p e below s _ _ _ (T226.setTop (mkF m 140 #[.val (.long p1), .second, .val (.long p2), .second, .val (.long p3), .second, .val (.long p4), .second, .val (.int p5), .val (.long p1), .second, .val (.long p4), .second, .val (.int ((XT.ushr p5 (2 : Int32)) &&& (3 : Int32))), .val (.ref b186), .unset, .unset, .unset, .unset] [(.ref x228)]))
            refine own_st (fun _ k => XS.astore X226.here hx rfl (hb hby at_140) rfl rfl (l' := #[.val (.long p1), .second, .val (.long p2), .second, .val (.long p3), .second, .val (.long p4), .second, .val (.int p5), .val (.long p1), .second, .val (.long p4), .second, .val (.int ((XT.ushr p5 (2 : Int32)) &&& (3 : Int32))), .val (.ref b186), .val (.ref x228), .unset, .unset, .unset]) rfl k) ?_
            show own_Go p e below s _ _ _ (T226.setTop (mkF m 142 #[.val (.long p1), .second, .val (.long p2), .second, .val (.long p3), .second, .val (.long p4), .second, .val (.int p5), .val (.long p1), .second, .val (.long p4), .second, .val (.int ((XT.ushr p5 (2 : Int32)) &&& (3 : Int32))), .val (.ref b186), .val (.ref x228), .unset, .unset, .unset] []))
            refine own_st (fun _ k => XT.iconstV X226.here hx rfl (0 : Int32) (hb hby at_142) (by decide) k) ?_
            show own_Go p e below s _ _ _ (T226.setTop (mkF m 143 #[.val (.long p1), .second, .val (.long p2), .second, .val (.long p3), .second, .val (.long p4), .second, .val (.int p5), .val (.long p1), .second, .val (.long p4), .second, .val (.int ((XT.ushr p5 (2 : Int32)) &&& (3 : Int32))), .val (.ref b186), .val (.ref x228), .unset, .unset, .unset] [(.int (0 : Int32))]))
            refine own_st (fun _ k => XS.istore X226.here hx rfl (hb hby at_143) rfl (l' := #[.val (.long p1), .second, .val (.long p2), .second, .val (.long p3), .second, .val (.long p4), .second, .val (.int p5), .val (.long p1), .second, .val (.long p4), .second, .val (.int ((XT.ushr p5 (2 : Int32)) &&& (3 : Int32))), .val (.ref b186), .val (.ref x228), .val (.int (0 : Int32)), .unset, .unset]) rfl k) ?_
            show own_Go p e below s _ _ _ (T226.setTop (mkF m 145 #[.val (.long p1), .second, .val (.long p2), .second, .val (.long p3), .second, .val (.long p4), .second, .val (.int p5), .val (.long p1), .second, .val (.long p4), .second, .val (.int ((XT.ushr p5 (2 : Int32)) &&& (3 : Int32))), .val (.ref b186), .val (.ref x228), .val (.int (0 : Int32)), .unset, .unset] []))
            refine own_st (fun _ k => XS.goto X226.here hx rfl (pc0 := 145) (pc' := 155) rfl (hb hby at_145) (by decide) (by decide) k) ?_
            show own_Go p e below s _ _ _ (T226.setTop (mkF m 155 #[.val (.long p1), .second, .val (.long p2), .second, .val (.long p3), .second, .val (.long p4), .second, .val (.int p5), .val (.long p1), .second, .val (.long p4), .second, .val (.int ((XT.ushr p5 (2 : Int32)) &&& (3 : Int32))), .val (.ref b186), .val (.ref x228), .val (.int (0 : Int32)), .unset, .unset] []))
            refine own_st (fun _ k => XS.aload X226.here hx rfl (hb hby at_155) rfl rfl k) ?_
            show own_Go p e below s _ _ _ (T226.setTop (mkF m 157 #[.val (.long p1), .second, .val (.long p2), .second, .val (.long p3), .second, .val (.long p4), .second, .val (.int p5), .val (.long p1), .second, .val (.long p4), .second, .val (.int ((XT.ushr p5 (2 : Int32)) &&& (3 : Int32))), .val (.ref b186), .val (.ref x228), .val (.int (0 : Int32)), .unset, .unset] [(.ref b186)]))
            refine own_st (fun _ k => XS.aload X226.here hx rfl (hb hby at_157) rfl rfl k) ?_
            show own_Go p e below s _ _ _ (T226.setTop (mkF m 159 #[.val (.long p1), .second, .val (.long p2), .second, .val (.long p3), .second, .val (.long p4), .second, .val (.int p5), .val (.long p1), .second, .val (.long p4), .second, .val (.int ((XT.ushr p5 (2 : Int32)) &&& (3 : Int32))), .val (.ref b186), .val (.ref x228), .val (.int (0 : Int32)), .unset, .unset] [(.ref x228), (.ref b186)]))
            have F234 : Exa Z T226.heap b186 "com/example/epoch/epoch/protocol/record/AbortedTransaction" := (q192.keep K226)
            obtain ⟨cq233, kq233, q233a, q233b, q233c⟩ := isOf hZ rfl F234
            obtain ⟨_, _, ⟨T233, L233, k233, n233⟩, -, X233, ⟨Lc233, hQ233, l233, y233, z233⟩, st233⟩ := X226.virtualBack hx (y := (⟨"com/example/epoch/epoch/protocol/record/AbortedTransaction", "equals", "(Ljava/lang/Object;)Z"⟩ : MethodName)) (z := (⟨"com/example/epoch/epoch/protocol/record/AbortedTransaction", "equals", "(Ljava/lang/Object;)Z"⟩ : MethodName)) hown (mvT hZ (hw _ (List.mem_of_getElem? (i := 13) rfl))) (mvT hZ (hw _ (List.mem_of_getElem? (i := 14) rfl))) (notFace_of_selects (args := #[]) (mvT hZ (hw _ (List.mem_of_getElem? (i := 16) rfl)))) (mvT hZ (hw _ (List.mem_of_getElem? (i := 16) rfl))) (mvT hZ (hw _ (List.mem_of_getElem? (i := 15) rfl))) (by decide) (backOf (W := 0) (own_rm_eqL l Z a0 hw [] b186 x228 T226.heap n0 Zs232 q229) hZ (hw _ (List.mem_of_getElem? (i := 17) rfl)) (hw _ (List.mem_of_getElem? (i := 2) rfl)) (by decide) (by decide)) q233a q233c (g := (mkF m 159 #[.val (.long p1), .second, .val (.long p2), .second, .val (.long p3), .second, .val (.long p4), .second, .val (.int p5), .val (.long p1), .second, .val (.long p4), .second, .val (.int ((XT.ushr p5 (2 : Int32)) &&& (3 : Int32))), .val (.ref b186), .val (.ref x228), .val (.int (0 : Int32)), .unset, .unset] [(.ref x228), (.ref b186)])) rfl (by rw [hml]; rfl) (Steps.refl _) (argsL := [(.ref x228)]) (rest := []) (lenOf own_pd3 rfl) rfl (by show 2 * 0 + _ ≤ _; exact Nat.le_of_eq rfl) (hb hby at_159) (fun _ _ => ⟨rfl, rfl, (by decide : 2 + 0 ≤ _), (by decide : 3 + 0 ≤ _)⟩)
            dsimp only [Pt.U, Pt.locs, Pt.cells, Pt.slots] at X233 l233 y233 z233 st233 hQ233
            subst l233 y233 z233
            obtain ⟨N233q, rfl, eh233⟩ := hQ233
            have N235 := Fr.app N231 N233q
            refine own_tr st233 ?_
            show own_Go p e below s _ _ _ (T233.setTop (mkF m 162 #[.val (.long p1), .second, .val (.long p2), .second, .val (.long p3), .second, .val (.long p4), .second, .val (.int p5), .val (.long p1), .second, .val (.long p4), .second, .val (.int ((XT.ushr p5 (2 : Int32)) &&& (3 : Int32))), .val (.ref b186), .val (.ref x228), .val (.int (0 : Int32)), .unset, .unset] [(.int (0 : Int32))]))
            refine own_st (fun _ k => XS.iload X233.here hx rfl (hb hby at_162) rfl k) ?_
            show own_Go p e below s _ _ _ (T233.setTop (mkF m 164 #[.val (.long p1), .second, .val (.long p2), .second, .val (.long p3), .second, .val (.long p4), .second, .val (.int p5), .val (.long p1), .second, .val (.long p4), .second, .val (.int ((XT.ushr p5 (2 : Int32)) &&& (3 : Int32))), .val (.ref b186), .val (.ref x228), .val (.int (0 : Int32)), .unset, .unset] [(.int (0 : Int32)), (.int (0 : Int32))]))
            refine own_st (fun _ k => XS.icmpNo X233.here hx rfl (hb hby at_164) rfl (XT.ii_ne_f rfl) k) ?_
            show own_Go p e below s _ _ _ (T233.setTop (mkF m 167 #[.val (.long p1), .second, .val (.long p2), .second, .val (.long p3), .second, .val (.long p4), .second, .val (.int p5), .val (.long p1), .second, .val (.long p4), .second, .val (.int ((XT.ushr p5 (2 : Int32)) &&& (3 : Int32))), .val (.ref b186), .val (.ref x228), .val (.int (0 : Int32)), .unset, .unset] []))
            refine own_st (fun _ k => XT.iconstV X233.here hx rfl (1 : Int32) (hb hby at_167) (by decide) k) ?_
            show own_Go p e below s _ _ _ (T233.setTop (mkF m 168 #[.val (.long p1), .second, .val (.long p2), .second, .val (.long p3), .second, .val (.long p4), .second, .val (.int p5), .val (.long p1), .second, .val (.long p4), .second, .val (.int ((XT.ushr p5 (2 : Int32)) &&& (3 : Int32))), .val (.ref b186), .val (.ref x228), .val (.int (0 : Int32)), .unset, .unset] [(.int (1 : Int32))]))
            refine own_st (fun _ k => XS.goto X233.here hx rfl (pc0 := 168) (pc' := 172) rfl (hb hby at_168) (by decide) (by decide) k) ?_
            show own_Go p e below s _ _ _ (T233.setTop (mkF m 172 #[.val (.long p1), .second, .val (.long p2), .second, .val (.long p3), .second, .val (.long p4), .second, .val (.int p5), .val (.long p1), .second, .val (.long p4), .second, .val (.int ((XT.ushr p5 (2 : Int32)) &&& (3 : Int32))), .val (.ref b186), .val (.ref x228), .val (.int (0 : Int32)), .unset, .unset] [(.int (1 : Int32))]))
            refine own_retN X233 hx hlk Bd.returns (t := .boolean) (z' := (1 : Int32)) (by simp) (by decide) (hb hby at_172) (by decide) (by decide) ?_
            rw [eh233]
            exact ⟨N235, rfl⟩
          · refine own_st (fun _ k => XS.icmpYes X191.here hx rfl (pc0 := 133) (pc' := 148) rfl (hb hby at_133) rfl (XT.ii_ne_t hc225) (by decide) (by decide) k) ?_
            show own_Go p e below s _ _ _ (T191.setTop (mkF m 148 #[.val (.long p1), .second, .val (.long p2), .second, .val (.long p3), .second, .val (.long p4), .second, .val (.int p5), .val (.long p1), .second, .val (.long p4), .second, .val (.int ((XT.ushr p5 (2 : Int32)) &&& (3 : Int32))), .val (.ref b186), .unset, .unset, .unset, .unset] []))
            refine own_st (fun _ k => XS.aload X191.here hx rfl (hb hby at_148) rfl rfl k) ?_
            show own_Go p e below s _ _ _ (T191.setTop (mkF m 150 #[.val (.long p1), .second, .val (.long p2), .second, .val (.long p3), .second, .val (.long p4), .second, .val (.int p5), .val (.long p1), .second, .val (.long p4), .second, .val (.int ((XT.ushr p5 (2 : Int32)) &&& (3 : Int32))), .val (.ref b186), .unset, .unset, .unset, .unset] [(.ref b186)]))
            refine own_st (fun _ k => XS.astore X191.here hx rfl (hb hby at_150) rfl rfl (l' := #[.val (.long p1), .second, .val (.long p2), .second, .val (.long p3), .second, .val (.long p4), .second, .val (.int p5), .val (.long p1), .second, .val (.long p4), .second, .val (.int ((XT.ushr p5 (2 : Int32)) &&& (3 : Int32))), .val (.ref b186), .val (.ref b186), .unset, .unset, .unset]) rfl k) ?_
            show own_Go p e below s _ _ _ (T191.setTop (mkF m 152 #[.val (.long p1), .second, .val (.long p2), .second, .val (.long p3), .second, .val (.long p4), .second, .val (.int p5), .val (.long p1), .second, .val (.long p4), .second, .val (.int ((XT.ushr p5 (2 : Int32)) &&& (3 : Int32))), .val (.ref b186), .val (.ref b186), .unset, .unset, .unset] []))
            refine own_st (fun _ k => XT.iconstV X191.here hx rfl (1 : Int32) (hb hby at_152) (by decide) k) ?_
            show own_Go p e below s _ _ _ (T191.setTop (mkF m 153 #[.val (.long p1), .second, .val (.long p2), .second, .val (.long p3), .second, .val (.long p4), .second, .val (.int p5), .val (.long p1), .second, .val (.long p4), .second, .val (.int ((XT.ushr p5 (2 : Int32)) &&& (3 : Int32))), .val (.ref b186), .val (.ref b186), .unset, .unset, .unset] [(.int (1 : Int32))]))
            refine own_st (fun _ k => XS.istore X191.here hx rfl (hb hby at_153) rfl (l' := #[.val (.long p1), .second, .val (.long p2), .second, .val (.long p3), .second, .val (.long p4), .second, .val (.int p5), .val (.long p1), .second, .val (.long p4), .second, .val (.int ((XT.ushr p5 (2 : Int32)) &&& (3 : Int32))), .val (.ref b186), .val (.ref b186), .val (.int (1 : Int32)), .unset, .unset]) rfl k) ?_
            show own_Go p e below s _ _ _ (T191.setTop (mkF m 155 #[.val (.long p1), .second, .val (.long p2), .second, .val (.long p3), .second, .val (.long p4), .second, .val (.int p5), .val (.long p1), .second, .val (.long p4), .second, .val (.int ((XT.ushr p5 (2 : Int32)) &&& (3 : Int32))), .val (.ref b186), .val (.ref b186), .val (.int (1 : Int32)), .unset, .unset] []))
            refine own_st (fun _ k => XS.aload X191.here hx rfl (hb hby at_155) rfl rfl k) ?_
            show own_Go p e below s _ _ _ (T191.setTop (mkF m 157 #[.val (.long p1), .second, .val (.long p2), .second, .val (.long p3), .second, .val (.long p4), .second, .val (.int p5), .val (.long p1), .second, .val (.long p4), .second, .val (.int ((XT.ushr p5 (2 : Int32)) &&& (3 : Int32))), .val (.ref b186), .val (.ref b186), .val (.int (1 : Int32)), .unset, .unset] [(.ref b186)]))
            refine own_st (fun _ k => XS.aload X191.here hx rfl (hb hby at_157) rfl rfl k) ?_
            show own_Go p e below s _ _ _ (T191.setTop (mkF m 159 #[.val (.long p1), .second, .val (.long p2), .second, .val (.long p3), .second, .val (.long p4), .second, .val (.int p5), .val (.long p1), .second, .val (.long p4), .second, .val (.int ((XT.ushr p5 (2 : Int32)) &&& (3 : Int32))), .val (.ref b186), .val (.ref b186), .val (.int (1 : Int32)), .unset, .unset] [(.ref b186), (.ref b186)]))
            obtain ⟨cq236, kq236, q236a, q236b, q236c⟩ := isOf hZ rfl q192
            obtain ⟨_, _, ⟨T236, L236, k236, n236⟩, -, X236, ⟨Lc236, hQ236, l236, y236, z236⟩, st236⟩ := X191.virtualBack hx (y := (⟨"com/example/epoch/epoch/protocol/record/AbortedTransaction", "equals", "(Ljava/lang/Object;)Z"⟩ : MethodName)) (z := (⟨"com/example/epoch/epoch/protocol/record/AbortedTransaction", "equals", "(Ljava/lang/Object;)Z"⟩ : MethodName)) hown (mvT hZ (hw _ (List.mem_of_getElem? (i := 13) rfl))) (mvT hZ (hw _ (List.mem_of_getElem? (i := 14) rfl))) (notFace_of_selects (args := #[]) (mvT hZ (hw _ (List.mem_of_getElem? (i := 16) rfl)))) (mvT hZ (hw _ (List.mem_of_getElem? (i := 16) rfl))) (mvT hZ (hw _ (List.mem_of_getElem? (i := 15) rfl))) (by decide) (backOf (W := 0) (own_rm_eqA l Z a0 hw [] b186 b186 p1 p2 p1 p2 T191.heap n0 Zs196 q192 q193 q194 q193 q194) hZ (hw _ (List.mem_of_getElem? (i := 17) rfl)) (hw _ (List.mem_of_getElem? (i := 2) rfl)) (by decide) (by decide)) q236a q236c (g := (mkF m 159 #[.val (.long p1), .second, .val (.long p2), .second, .val (.long p3), .second, .val (.long p4), .second, .val (.int p5), .val (.long p1), .second, .val (.long p4), .second, .val (.int ((XT.ushr p5 (2 : Int32)) &&& (3 : Int32))), .val (.ref b186), .val (.ref b186), .val (.int (1 : Int32)), .unset, .unset] [(.ref b186), (.ref b186)])) rfl (by rw [hml]; rfl) (Steps.refl _) (argsL := [(.ref b186)]) (rest := []) (lenOf own_pd3 rfl) rfl (by show 2 * 0 + _ ≤ _; exact Nat.le_of_eq rfl) (hb hby at_159) (fun _ _ => ⟨rfl, rfl, (by decide : 1 + 0 ≤ _), (by decide : 2 + 0 ≤ _)⟩)
            dsimp only [Pt.U, Pt.locs, Pt.cells, Pt.slots] at X236 l236 y236 z236 st236 hQ236
            subst l236 y236 z236
            obtain ⟨N236q, rfl, eh236⟩ := hQ236
            have N237 := Fr.app N195 N236q
            refine own_tr st236 ?_
            show own_Go p e below s _ _ _ (T236.setTop (mkF m 162 #[.val (.long p1), .second, .val (.long p2), .second, .val (.long p3), .second, .val (.long p4), .second, .val (.int p5), .val (.long p1), .second, .val (.long p4), .second, .val (.int ((XT.ushr p5 (2 : Int32)) &&& (3 : Int32))), .val (.ref b186), .val (.ref b186), .val (.int (1 : Int32)), .unset, .unset] [(.int (if p1 = p1 then (if p2 = p2 then (1 : Int32) else 0) else 0))]))
            refine own_st (fun _ k => XS.iload X236.here hx rfl (hb hby at_162) rfl k) ?_
            show own_Go p e below s _ _ _ (T236.setTop (mkF m 164 #[.val (.long p1), .second, .val (.long p2), .second, .val (.long p3), .second, .val (.long p4), .second, .val (.int p5), .val (.long p1), .second, .val (.long p4), .second, .val (.int ((XT.ushr p5 (2 : Int32)) &&& (3 : Int32))), .val (.ref b186), .val (.ref b186), .val (.int (1 : Int32)), .unset, .unset] [(.int (1 : Int32)), (.int (if p1 = p1 then (if p2 = p2 then (1 : Int32) else 0) else 0))]))
            refine own_st (fun _ k => XS.icmpNo X236.here hx rfl (hb hby at_164) rfl (XT.ii_ne_f (by simp [])) k) ?_
            show own_Go p e below s _ _ _ (T236.setTop (mkF m 167 #[.val (.long p1), .second, .val (.long p2), .second, .val (.long p3), .second, .val (.long p4), .second, .val (.int p5), .val (.long p1), .second, .val (.long p4), .second, .val (.int ((XT.ushr p5 (2 : Int32)) &&& (3 : Int32))), .val (.ref b186), .val (.ref b186), .val (.int (1 : Int32)), .unset, .unset] []))
            refine own_st (fun _ k => XT.iconstV X236.here hx rfl (1 : Int32) (hb hby at_167) (by decide) k) ?_
            show own_Go p e below s _ _ _ (T236.setTop (mkF m 168 #[.val (.long p1), .second, .val (.long p2), .second, .val (.long p3), .second, .val (.long p4), .second, .val (.int p5), .val (.long p1), .second, .val (.long p4), .second, .val (.int ((XT.ushr p5 (2 : Int32)) &&& (3 : Int32))), .val (.ref b186), .val (.ref b186), .val (.int (1 : Int32)), .unset, .unset] [(.int (1 : Int32))]))
            refine own_st (fun _ k => XS.goto X236.here hx rfl (pc0 := 168) (pc' := 172) rfl (hb hby at_168) (by decide) (by decide) k) ?_
            show own_Go p e below s _ _ _ (T236.setTop (mkF m 172 #[.val (.long p1), .second, .val (.long p2), .second, .val (.long p3), .second, .val (.long p4), .second, .val (.int p5), .val (.long p1), .second, .val (.long p4), .second, .val (.int ((XT.ushr p5 (2 : Int32)) &&& (3 : Int32))), .val (.ref b186), .val (.ref b186), .val (.int (1 : Int32)), .unset, .unset] [(.int (1 : Int32))]))
            refine own_retN X236 hx hlk Bd.returns (t := .boolean) (z' := (1 : Int32)) (by simp) (by decide) (hb hby at_172) (by decide) (by decide) ?_
            rw [eh236]
            exact ⟨N237, rfl⟩
    · refine own_st (fun _ k => XS.ifNo X0.here hx rfl (hb hby at_19) rfl (XT.i0_eq_f hc185) k) ?_
      show own_Go p e below s _ _ _ (s₁.setTop (mkF m 22 #[.val (.long p1), .second, .val (.long p2), .second, .val (.long p3), .second, .val (.long p4), .second, .val (.int p5), .val (.long p1), .second, .unset, .unset, .unset, .unset, .unset, .unset, .unset, .unset] []))
      refine own_st (fun _ k => XT.lloadN X0.here hx rfl (hb hby at_22) rfl k) ?_
      show own_Go p e below s _ _ _ (s₁.setTop (mkF m 23 #[.val (.long p1), .second, .val (.long p2), .second, .val (.long p3), .second, .val (.long p4), .second, .val (.int p5), .val (.long p1), .second, .unset, .unset, .unset, .unset, .unset, .unset, .unset, .unset] [(.long p2)]))
      refine own_st (fun _ k => XS.goto X0.here hx rfl (pc0 := 23) (pc' := 28) rfl (hb hby at_23) (by decide) (by decide) k) ?_
      show own_Go p e below s _ _ _ (s₁.setTop (mkF m 28 #[.val (.long p1), .second, .val (.long p2), .second, .val (.long p3), .second, .val (.long p4), .second, .val (.int p5), .val (.long p1), .second, .unset, .unset, .unset, .unset, .unset, .unset, .unset, .unset] [(.long p2)]))
      refine own_st (fun _ k => XT.lstore X0.here hx rfl (hb hby at_28) rfl (l' := #[.val (.long p1), .second, .val (.long p2), .second, .val (.long p3), .second, .val (.long p4), .second, .val (.int p5), .val (.long p1), .second, .val (.long p2), .second, .unset, .unset, .unset, .unset, .unset, .unset]) rfl k) ?_
      show own_Go p e below s _ _ _ (s₁.setTop (mkF m 30 #[.val (.long p1), .second, .val (.long p2), .second, .val (.long p3), .second, .val (.long p4), .second, .val (.int p5), .val (.long p1), .second, .val (.long p2), .second, .unset, .unset, .unset, .unset, .unset, .unset] []))
      refine own_st (fun _ k => XS.iload X0.here hx rfl (hb hby at_30) rfl k) ?_
      show own_Go p e below s _ _ _ (s₁.setTop (mkF m 32 #[.val (.long p1), .second, .val (.long p2), .second, .val (.long p3), .second, .val (.long p4), .second, .val (.int p5), .val (.long p1), .second, .val (.long p2), .second, .unset, .unset, .unset, .unset, .unset, .unset] [(.int p5)]))
      refine own_st (fun _ k => XT.iconstV X0.here hx rfl (2 : Int32) (hb hby at_32) (by decide) k) ?_
      show own_Go p e below s _ _ _ (s₁.setTop (mkF m 33 #[.val (.long p1), .second, .val (.long p2), .second, .val (.long p3), .second, .val (.long p4), .second, .val (.int p5), .val (.long p1), .second, .val (.long p2), .second, .unset, .unset, .unset, .unset, .unset, .unset] [(.int (2 : Int32)), (.int p5)]))
      refine own_st (fun _ k => XT.iushr X0.here hx rfl (hb hby at_33) rfl k) ?_
      show own_Go p e below s _ _ _ (s₁.setTop (mkF m 34 #[.val (.long p1), .second, .val (.long p2), .second, .val (.long p3), .second, .val (.long p4), .second, .val (.int p5), .val (.long p1), .second, .val (.long p2), .second, .unset, .unset, .unset, .unset, .unset, .unset] [(.int (XT.ushr p5 (2 : Int32)))]))
      refine own_st (fun _ k => XT.iconstV X0.here hx rfl (3 : Int32) (hb hby at_34) (by decide) k) ?_
      show own_Go p e below s _ _ _ (s₁.setTop (mkF m 35 #[.val (.long p1), .second, .val (.long p2), .second, .val (.long p3), .second, .val (.long p4), .second, .val (.int p5), .val (.long p1), .second, .val (.long p2), .second, .unset, .unset, .unset, .unset, .unset, .unset] [(.int (3 : Int32)), (.int (XT.ushr p5 (2 : Int32)))]))
      refine own_st (fun _ k => XS.iand X0.here hx rfl (hb hby at_35) rfl k) ?_
      show own_Go p e below s _ _ _ (s₁.setTop (mkF m 36 #[.val (.long p1), .second, .val (.long p2), .second, .val (.long p3), .second, .val (.long p4), .second, .val (.int p5), .val (.long p1), .second, .val (.long p2), .second, .unset, .unset, .unset, .unset, .unset, .unset] [(.int ((XT.ushr p5 (2 : Int32)) &&& (3 : Int32)))]))
      refine own_st (fun _ k => XS.istore X0.here hx rfl (hb hby at_36) rfl (l' := #[.val (.long p1), .second, .val (.long p2), .second, .val (.long p3), .second, .val (.long p4), .second, .val (.int p5), .val (.long p1), .second, .val (.long p2), .second, .val (.int ((XT.ushr p5 (2 : Int32)) &&& (3 : Int32))), .unset, .unset, .unset, .unset, .unset]) rfl k) ?_
      show own_Go p e below s _ _ _ (s₁.setTop (mkF m 38 #[.val (.long p1), .second, .val (.long p2), .second, .val (.long p3), .second, .val (.long p4), .second, .val (.int p5), .val (.long p1), .second, .val (.long p2), .second, .val (.int ((XT.ushr p5 (2 : Int32)) &&& (3 : Int32))), .unset, .unset, .unset, .unset, .unset] []))
      obtain ⟨T238, h238, X238, e238, E238, A238, D238, -, st238⟩ := newO X0 hx hZ hown (hw _ (List.mem_of_getElem? (i := 0) rfl)) (hw _ (List.mem_of_getElem? (i := 1) rfl)) (hw _ (List.mem_of_getElem? (i := 2) rfl)) e0 (g := (mkF m 38 #[.val (.long p1), .second, .val (.long p2), .second, .val (.long p3), .second, .val (.long p4), .second, .val (.int p5), .val (.long p1), .second, .val (.long p2), .second, .val (.int ((XT.ushr p5 (2 : Int32)) &&& (3 : Int32))), .unset, .unset, .unset, .unset, .unset] [])) rfl (hb hby at_38) (by decide) (by decide)
      obtain ⟨b238, g238⟩ : ∃ z, z = h0.size := ⟨_, rfl⟩
      rw [← g238] at A238 D238 st238
      refine own_st st238 ?_
      have Zs239 : n0 ≤ h238.size := Nat.le_trans Z0 E238.1
      have g240 : n0 ≤ b238 := Nat.le_trans Z0 (Nat.le_of_eq g238.symm)
      have F241 : Fld Z h238 b238 "com/example/epoch/epoch/protocol/record/AbortedTransaction" "producerId" "J" (.long (0 : Int64)) := D238 (Or.inr (hw _ (List.mem_of_getElem? (i := 10) rfl))) (ty := .long) (by decide)
      have F242 : Fld Z h238 b238 "com/example/epoch/epoch/protocol/record/AbortedTransaction" "firstOffset" "J" (.long (0 : Int64)) := D238 (Or.inr (hw _ (List.mem_of_getElem? (i := 12) rfl))) (ty := .long) (by decide)
      show own_Go p e below s _ _ _ (T238.setTop (mkF m 41 #[.val (.long p1), .second, .val (.long p2), .second, .val (.long p3), .second, .val (.long p4), .second, .val (.int p5), .val (.long p1), .second, .val (.long p2), .second, .val (.int ((XT.ushr p5 (2 : Int32)) &&& (3 : Int32))), .unset, .unset, .unset, .unset, .unset] [(.ref b238)]))
      refine own_st (fun _ k => XS.dup X238.here hx rfl (hb hby at_41) rfl rfl k) ?_
      show own_Go p e below s _ _ _ (T238.setTop (mkF m 42 #[.val (.long p1), .second, .val (.long p2), .second, .val (.long p3), .second, .val (.long p4), .second, .val (.int p5), .val (.long p1), .second, .val (.long p2), .second, .val (.int ((XT.ushr p5 (2 : Int32)) &&& (3 : Int32))), .unset, .unset, .unset, .unset, .unset] [(.ref b238), (.ref b238)]))
      refine own_st (fun _ k => XT.lloadN X238.here hx rfl (hb hby at_42) rfl k) ?_
      show own_Go p e below s _ _ _ (T238.setTop (mkF m 43 #[.val (.long p1), .second, .val (.long p2), .second, .val (.long p3), .second, .val (.long p4), .second, .val (.int p5), .val (.long p1), .second, .val (.long p2), .second, .val (.int ((XT.ushr p5 (2 : Int32)) &&& (3 : Int32))), .unset, .unset, .unset, .unset, .unset] [(.long p1), (.ref b238), (.ref b238)]))
      refine own_st (fun _ k => XT.lloadN X238.here hx rfl (hb hby at_43) rfl k) ?_
      show own_Go p e below s _ _ _ (T238.setTop (mkF m 44 #[.val (.long p1), .second, .val (.long p2), .second, .val (.long p3), .second, .val (.long p4), .second, .val (.int p5), .val (.long p1), .second, .val (.long p2), .second, .val (.int ((XT.ushr p5 (2 : Int32)) &&& (3 : Int32))), .unset, .unset, .unset, .unset, .unset] [(.long p2), (.long p1), (.ref b238), (.ref b238)]))
      obtain ⟨_, _, ⟨T243, L243, k243, n243⟩, -, X243, ⟨Lc243, hQ243, l243, y243, z243⟩, st243⟩ := X238.specialBack hx (y := (⟨"com/example/epoch/epoch/protocol/record/AbortedTransaction", "<init>", "(JJ)V"⟩ : MethodName)) rfl hown (mvT hZ (hw _ (List.mem_of_getElem? (i := 3) rfl))) (mvT hZ (hw _ (List.mem_of_getElem? (i := 4) rfl))) (mvT hZ (hw _ (List.mem_of_getElem? (i := 5) rfl))) (by decide) (backOf (W := 1) (own_rm_init l Z a0 hw [] b238 p1 p2 h238 n0 Zs239 A238 F241 F242 g240) hZ (hw _ (List.mem_of_getElem? (i := 5) rfl)) (hw _ (List.mem_of_getElem? (i := 2) rfl)) (by decide) (by decide)) (g := (mkF m 44 #[.val (.long p1), .second, .val (.long p2), .second, .val (.long p3), .second, .val (.long p4), .second, .val (.int p5), .val (.long p1), .second, .val (.long p2), .second, .val (.int ((XT.ushr p5 (2 : Int32)) &&& (3 : Int32))), .unset, .unset, .unset, .unset, .unset] [(.long p2), (.long p1), (.ref b238), (.ref b238)])) rfl (by rw [hml]; rfl) (Steps.refl _) (a := b238) (argsL := [(.long p1), (.long p2)]) (rest := [(.ref b238)]) (lenOf own_pd2 rfl) rfl (by show 2 * 0 + _ ≤ _; exact Nat.le_of_eq rfl) (hb hby at_44) (fun _ _ => ⟨rfl, e238, (by decide : 1 + 0 ≤ _), (by decide : 2 + 0 ≤ _)⟩)
      dsimp only [Pt.U, Pt.locs, Pt.cells, Pt.slots] at X243 l243 y243 z243 st243 hQ243
      subst l243 y243 z243
      obtain ⟨N243q, rfl, K243, q244, q245, q246⟩ := hQ243
      have N247 := Fr.app N0 N243q
      refine own_tr st243 ?_
      have Zs248 : n0 ≤ T243.heap.size := Nat.le_trans Zs239 K243.1
      show own_Go p e below s _ _ _ (T243.setTop (mkF m 47 #[.val (.long p1), .second, .val (.long p2), .second, .val (.long p3), .second, .val (.long p4), .second, .val (.int p5), .val (.long p1), .second, .val (.long p2), .second, .val (.int ((XT.ushr p5 (2 : Int32)) &&& (3 : Int32))), .unset, .unset, .unset, .unset, .unset] [(.ref b238)]))
      refine own_st (fun _ k => XS.astore X243.here hx rfl (hb hby at_47) rfl rfl (l' := #[.val (.long p1), .second, .val (.long p2), .second, .val (.long p3), .second, .val (.long p4), .second, .val (.int p5), .val (.long p1), .second, .val (.long p2), .second, .val (.int ((XT.ushr p5 (2 : Int32)) &&& (3 : Int32))), .val (.ref b238), .unset, .unset, .unset, .unset]) rfl k) ?_
      show own_Go p e below s _ _ _ (T243.setTop (mkF m 49 #[.val (.long p1), .second, .val (.long p2), .second, .val (.long p3), .second, .val (.long p4), .second, .val (.int p5), .val (.long p1), .second, .val (.long p2), .second, .val (.int ((XT.ushr p5 (2 : Int32)) &&& (3 : Int32))), .val (.ref b238), .unset, .unset, .unset, .unset] []))
      refine own_st (fun _ k => XS.iload X243.here hx rfl (hb hby at_49) rfl k) ?_
      show own_Go p e below s _ _ _ (T243.setTop (mkF m 51 #[.val (.long p1), .second, .val (.long p2), .second, .val (.long p3), .second, .val (.long p4), .second, .val (.int p5), .val (.long p1), .second, .val (.long p2), .second, .val (.int ((XT.ushr p5 (2 : Int32)) &&& (3 : Int32))), .val (.ref b238), .unset, .unset, .unset, .unset] [(.int ((XT.ushr p5 (2 : Int32)) &&& (3 : Int32)))]))
      by_cases hc249 : ((XT.ushr p5 (2 : Int32)) &&& (3 : Int32)) = 0
      · refine own_st (fun _ k => XS.ifNo X243.here hx rfl (hb hby at_51) rfl (XT.i0_ne_f hc249) k) ?_
        show own_Go p e below s _ _ _ (T243.setTop (mkF m 54 #[.val (.long p1), .second, .val (.long p2), .second, .val (.long p3), .second, .val (.long p4), .second, .val (.int p5), .val (.long p1), .second, .val (.long p2), .second, .val (.int ((XT.ushr p5 (2 : Int32)) &&& (3 : Int32))), .val (.ref b238), .unset, .unset, .unset, .unset] []))
        obtain ⟨T250, h250, X250, e250, E250, A250, D250, -, st250⟩ := newO X243 hx hZ hown (hw _ (List.mem_of_getElem? (i := 0) rfl)) (hw _ (List.mem_of_getElem? (i := 1) rfl)) (hw _ (List.mem_of_getElem? (i := 2) rfl)) rfl (g := (mkF m 54 #[.val (.long p1), .second, .val (.long p2), .second, .val (.long p3), .second, .val (.long p4), .second, .val (.int p5), .val (.long p1), .second, .val (.long p2), .second, .val (.int ((XT.ushr p5 (2 : Int32)) &&& (3 : Int32))), .val (.ref b238), .unset, .unset, .unset, .unset] [])) rfl (hb hby at_54) (by decide) (by decide)
        obtain ⟨b250, g250⟩ : ∃ z, z = T243.heap.size := ⟨_, rfl⟩
        rw [← g250] at A250 D250 st250
        refine own_st st250 ?_
        have Zs251 : n0 ≤ h250.size := Nat.le_trans Zs248 E250.1
        have g252 : n0 ≤ b250 := Nat.le_trans Zs248 (Nat.le_of_eq g250.symm)
        have F253 : Fld Z h250 b250 "com/example/epoch/epoch/protocol/record/AbortedTransaction" "producerId" "J" (.long (0 : Int64)) := D250 (Or.inr (hw _ (List.mem_of_getElem? (i := 10) rfl))) (ty := .long) (by decide)
        have F254 : Fld Z h250 b250 "com/example/epoch/epoch/protocol/record/AbortedTransaction" "firstOffset" "J" (.long (0 : Int64)) := D250 (Or.inr (hw _ (List.mem_of_getElem? (i := 12) rfl))) (ty := .long) (by decide)
        show own_Go p e below s _ _ _ (T250.setTop (mkF m 57 #[.val (.long p1), .second, .val (.long p2), .second, .val (.long p3), .second, .val (.long p4), .second, .val (.int p5), .val (.long p1), .second, .val (.long p2), .second, .val (.int ((XT.ushr p5 (2 : Int32)) &&& (3 : Int32))), .val (.ref b238), .unset, .unset, .unset, .unset] [(.ref b250)]))
        refine own_st (fun _ k => XS.dup X250.here hx rfl (hb hby at_57) rfl rfl k) ?_
        show own_Go p e below s _ _ _ (T250.setTop (mkF m 58 #[.val (.long p1), .second, .val (.long p2), .second, .val (.long p3), .second, .val (.long p4), .second, .val (.int p5), .val (.long p1), .second, .val (.long p2), .second, .val (.int ((XT.ushr p5 (2 : Int32)) &&& (3 : Int32))), .val (.ref b238), .unset, .unset, .unset, .unset] [(.ref b250), (.ref b250)]))
        refine own_st (fun _ k => XT.lload X250.here hx rfl (hb hby at_58) rfl k) ?_
        show own_Go p e below s _ _ _ (T250.setTop (mkF m 60 #[.val (.long p1), .second, .val (.long p2), .second, .val (.long p3), .second, .val (.long p4), .second, .val (.int p5), .val (.long p1), .second, .val (.long p2), .second, .val (.int ((XT.ushr p5 (2 : Int32)) &&& (3 : Int32))), .val (.ref b238), .unset, .unset, .unset, .unset] [(.long p1), (.ref b250), (.ref b250)]))
        refine own_st (fun _ k => XT.lload X250.here hx rfl (hb hby at_60) rfl k) ?_
        show own_Go p e below s _ _ _ (T250.setTop (mkF m 62 #[.val (.long p1), .second, .val (.long p2), .second, .val (.long p3), .second, .val (.long p4), .second, .val (.int p5), .val (.long p1), .second, .val (.long p2), .second, .val (.int ((XT.ushr p5 (2 : Int32)) &&& (3 : Int32))), .val (.ref b238), .unset, .unset, .unset, .unset] [(.long p2), (.long p1), (.ref b250), (.ref b250)]))
        obtain ⟨_, _, ⟨T255, L255, k255, n255⟩, -, X255, ⟨Lc255, hQ255, l255, y255, z255⟩, st255⟩ := X250.specialBack hx (y := (⟨"com/example/epoch/epoch/protocol/record/AbortedTransaction", "<init>", "(JJ)V"⟩ : MethodName)) rfl hown (mvT hZ (hw _ (List.mem_of_getElem? (i := 3) rfl))) (mvT hZ (hw _ (List.mem_of_getElem? (i := 4) rfl))) (mvT hZ (hw _ (List.mem_of_getElem? (i := 5) rfl))) (by decide) (backOf (W := 1) (own_rm_init l Z a0 hw [] b250 p1 p2 h250 n0 Zs251 A250 F253 F254 g252) hZ (hw _ (List.mem_of_getElem? (i := 5) rfl)) (hw _ (List.mem_of_getElem? (i := 2) rfl)) (by decide) (by decide)) (g := (mkF m 62 #[.val (.long p1), .second, .val (.long p2), .second, .val (.long p3), .second, .val (.long p4), .second, .val (.int p5), .val (.long p1), .second, .val (.long p2), .second, .val (.int ((XT.ushr p5 (2 : Int32)) &&& (3 : Int32))), .val (.ref b238), .unset, .unset, .unset, .unset] [(.long p2), (.long p1), (.ref b250), (.ref b250)])) rfl (by rw [hml]; rfl) (Steps.refl _) (a := b250) (argsL := [(.long p1), (.long p2)]) (rest := [(.ref b250)]) (lenOf own_pd2 rfl) rfl (by show 2 * 0 + _ ≤ _; exact Nat.le_of_eq rfl) (hb hby at_62) (fun _ _ => ⟨rfl, e250, (by decide : 2 + 0 ≤ _), (by decide : 4 + 0 ≤ _)⟩)
        dsimp only [Pt.U, Pt.locs, Pt.cells, Pt.slots] at X255 l255 y255 z255 st255 hQ255
        subst l255 y255 z255
        obtain ⟨N255q, rfl, K255, q256, q257, q258⟩ := hQ255
        have N259 := Fr.app N247 N255q
        refine own_tr st255 ?_
        have Zs260 : n0 ≤ T255.heap.size := Nat.le_trans Zs251 K255.1
        show own_Go p e below s _ _ _ (T255.setTop (mkF m 65 #[.val (.long p1), .second, .val (.long p2), .second, .val (.long p3), .second, .val (.long p4), .second, .val (.int p5), .val (.long p1), .second, .val (.long p2), .second, .val (.int ((XT.ushr p5 (2 : Int32)) &&& (3 : Int32))), .val (.ref b238), .unset, .unset, .unset, .unset] [(.ref b250)]))
        refine own_st (fun _ k => XS.astore X255.here hx rfl (hb hby at_65) rfl rfl (l' := #[.val (.long p1), .second, .val (.long p2), .second, .val (.long p3), .second, .val (.long p4), .second, .val (.int p5), .val (.long p1), .second, .val (.long p2), .second, .val (.int ((XT.ushr p5 (2 : Int32)) &&& (3 : Int32))), .val (.ref b238), .val (.ref b250), .unset, .unset, .unset]) rfl k) ?_
        show own_Go p e below s _ _ _ (T255.setTop (mkF m 67 #[.val (.long p1), .second, .val (.long p2), .second, .val (.long p3), .second, .val (.long p4), .second, .val (.int p5), .val (.long p1), .second, .val (.long p2), .second, .val (.int ((XT.ushr p5 (2 : Int32)) &&& (3 : Int32))), .val (.ref b238), .val (.ref b250), .unset, .unset, .unset] []))
        refine own_st (fun _ k => XT.lloadN X255.here hx rfl (hb hby at_67) rfl k) ?_
        show own_Go p e below s _ _ _ (T255.setTop (mkF m 68 #[.val (.long p1), .second, .val (.long p2), .second, .val (.long p3), .second, .val (.long p4), .second, .val (.int p5), .val (.long p1), .second, .val (.long p2), .second, .val (.int ((XT.ushr p5 (2 : Int32)) &&& (3 : Int32))), .val (.ref b238), .val (.ref b250), .unset, .unset, .unset] [(.long p1)]))
        refine own_st (fun _ k => XT.lload X255.here hx rfl (hb hby at_68) rfl k) ?_
        show own_Go p e below s _ _ _ (T255.setTop (mkF m 70 #[.val (.long p1), .second, .val (.long p2), .second, .val (.long p3), .second, .val (.long p4), .second, .val (.int p5), .val (.long p1), .second, .val (.long p2), .second, .val (.int ((XT.ushr p5 (2 : Int32)) &&& (3 : Int32))), .val (.ref b238), .val (.ref b250), .unset, .unset, .unset] [(.long p1), (.long p1)]))
        refine own_st (fun _ k => XT.lcmp X255.here hx rfl (hb hby at_70) rfl k) ?_
        show own_Go p e below s _ _ _ (T255.setTop (mkF m 71 #[.val (.long p1), .second, .val (.long p2), .second, .val (.long p3), .second, .val (.long p4), .second, .val (.int p5), .val (.long p1), .second, .val (.long p2), .second, .val (.int ((XT.ushr p5 (2 : Int32)) &&& (3 : Int32))), .val (.ref b238), .val (.ref b250), .unset, .unset, .unset] [(.int (XT.cmpL p1 p1))]))
        refine own_st (fun _ k => XS.ifNo X255.here hx rfl (hb hby at_71) rfl (XT.ll_ne_f rfl) k) ?_
        show own_Go p e below s _ _ _ (T255.setTop (mkF m 74 #[.val (.long p1), .second, .val (.long p2), .second, .val (.long p3), .second, .val (.long p4), .second, .val (.int p5), .val (.long p1), .second, .val (.long p2), .second, .val (.int ((XT.ushr p5 (2 : Int32)) &&& (3 : Int32))), .val (.ref b238), .val (.ref b250), .unset, .unset, .unset] []))
        refine own_st (fun _ k => XT.iconstV X255.here hx rfl (1 : Int32) (hb hby at_74) (by decide) k) ?_
        show own_Go p e below s _ _ _ (T255.setTop (mkF m 75 #[.val (.long p1), .second, .val (.long p2), .second, .val (.long p3), .second, .val (.long p4), .second, .val (.int p5), .val (.long p1), .second, .val (.long p2), .second, .val (.int ((XT.ushr p5 (2 : Int32)) &&& (3 : Int32))), .val (.ref b238), .val (.ref b250), .unset, .unset, .unset] [(.int (1 : Int32))]))
        refine own_st (fun _ k => XS.goto X255.here hx rfl (pc0 := 75) (pc' := 79) rfl (hb hby at_75) (by decide) (by decide) k) ?_
        show own_Go p e below s _ _ _ (T255.setTop (mkF m 79 #[.val (.long p1), .second, .val (.long p2), .second, .val (.long p3), .second, .val (.long p4), .second, .val (.int p5), .val (.long p1), .second, .val (.long p2), .second, .val (.int ((XT.ushr p5 (2 : Int32)) &&& (3 : Int32))), .val (.ref b238), .val (.ref b250), .unset, .unset, .unset] [(.int (1 : Int32))]))
        refine own_st (fun _ k => XS.istore X255.here hx rfl (hb hby at_79) rfl (l' := #[.val (.long p1), .second, .val (.long p2), .second, .val (.long p3), .second, .val (.long p4), .second, .val (.int p5), .val (.long p1), .second, .val (.long p2), .second, .val (.int ((XT.ushr p5 (2 : Int32)) &&& (3 : Int32))), .val (.ref b238), .val (.ref b250), .unset, .val (.int (1 : Int32)), .unset]) rfl k) ?_
        show own_Go p e below s _ _ _ (T255.setTop (mkF m 81 #[.val (.long p1), .second, .val (.long p2), .second, .val (.long p3), .second, .val (.long p4), .second, .val (.int p5), .val (.long p1), .second, .val (.long p2), .second, .val (.int ((XT.ushr p5 (2 : Int32)) &&& (3 : Int32))), .val (.ref b238), .val (.ref b250), .unset, .val (.int (1 : Int32)), .unset] []))
        refine own_st (fun _ k => XT.lloadN X255.here hx rfl (hb hby at_81) rfl k) ?_
        show own_Go p e below s _ _ _ (T255.setTop (mkF m 82 #[.val (.long p1), .second, .val (.long p2), .second, .val (.long p3), .second, .val (.long p4), .second, .val (.int p5), .val (.long p1), .second, .val (.long p2), .second, .val (.int ((XT.ushr p5 (2 : Int32)) &&& (3 : Int32))), .val (.ref b238), .val (.ref b250), .unset, .val (.int (1 : Int32)), .unset] [(.long p2)]))
        refine own_st (fun _ k => XT.lload X255.here hx rfl (hb hby at_82) rfl k) ?_
        show own_Go p e below s _ _ _ (T255.setTop (mkF m 84 #[.val (.long p1), .second, .val (.long p2), .second, .val (.long p3), .second, .val (.long p4), .second, .val (.int p5), .val (.long p1), .second, .val (.long p2), .second, .val (.int ((XT.ushr p5 (2 : Int32)) &&& (3 : Int32))), .val (.ref b238), .val (.ref b250), .unset, .val (.int (1 : Int32)), .unset] [(.long p2), (.long p2)]))
        refine own_st (fun _ k => XT.lcmp X255.here hx rfl (hb hby at_84) rfl k) ?_
        show own_Go p e below s _ _ _ (T255.setTop (mkF m 85 #[.val (.long p1), .second, .val (.long p2), .second, .val (.long p3), .second, .val (.long p4), .second, .val (.int p5), .val (.long p1), .second, .val (.long p2), .second, .val (.int ((XT.ushr p5 (2 : Int32)) &&& (3 : Int32))), .val (.ref b238), .val (.ref b250), .unset, .val (.int (1 : Int32)), .unset] [(.int (XT.cmpL p2 p2))]))
        refine own_st (fun _ k => XS.ifNo X255.here hx rfl (hb hby at_85) rfl (XT.ll_ne_f rfl) k) ?_
        show own_Go p e below s _ _ _ (T255.setTop (mkF m 88 #[.val (.long p1), .second, .val (.long p2), .second, .val (.long p3), .second, .val (.long p4), .second, .val (.int p5), .val (.long p1), .second, .val (.long p2), .second, .val (.int ((XT.ushr p5 (2 : Int32)) &&& (3 : Int32))), .val (.ref b238), .val (.ref b250), .unset, .val (.int (1 : Int32)), .unset] []))
        refine own_st (fun _ k => XT.iconstV X255.here hx rfl (1 : Int32) (hb hby at_88) (by decide) k) ?_
        show own_Go p e below s _ _ _ (T255.setTop (mkF m 89 #[.val (.long p1), .second, .val (.long p2), .second, .val (.long p3), .second, .val (.long p4), .second, .val (.int p5), .val (.long p1), .second, .val (.long p2), .second, .val (.int ((XT.ushr p5 (2 : Int32)) &&& (3 : Int32))), .val (.ref b238), .val (.ref b250), .unset, .val (.int (1 : Int32)), .unset] [(.int (1 : Int32))]))
        refine own_st (fun _ k => XS.goto X255.here hx rfl (pc0 := 89) (pc' := 93) rfl (hb hby at_89) (by decide) (by decide) k) ?_
        show own_Go p e below s _ _ _ (T255.setTop (mkF m 93 #[.val (.long p1), .second, .val (.long p2), .second, .val (.long p3), .second, .val (.long p4), .second, .val (.int p5), .val (.long p1), .second, .val (.long p2), .second, .val (.int ((XT.ushr p5 (2 : Int32)) &&& (3 : Int32))), .val (.ref b238), .val (.ref b250), .unset, .val (.int (1 : Int32)), .unset] [(.int (1 : Int32))]))
        refine own_st (fun _ k => XS.istore X255.here hx rfl (hb hby at_93) rfl (l' := #[.val (.long p1), .second, .val (.long p2), .second, .val (.long p3), .second, .val (.long p4), .second, .val (.int p5), .val (.long p1), .second, .val (.long p2), .second, .val (.int ((XT.ushr p5 (2 : Int32)) &&& (3 : Int32))), .val (.ref b238), .val (.ref b250), .unset, .val (.int (1 : Int32)), .val (.int (1 : Int32))]) rfl k) ?_
        show own_Go p e below s _ _ _ (T255.setTop (mkF m 95 #[.val (.long p1), .second, .val (.long p2), .second, .val (.long p3), .second, .val (.long p4), .second, .val (.int p5), .val (.long p1), .second, .val (.long p2), .second, .val (.int ((XT.ushr p5 (2 : Int32)) &&& (3 : Int32))), .val (.ref b238), .val (.ref b250), .unset, .val (.int (1 : Int32)), .val (.int (1 : Int32))] []))
        refine own_st (fun _ k => XS.iload X255.here hx rfl (hb hby at_95) rfl k) ?_
        show own_Go p e below s _ _ _ (T255.setTop (mkF m 97 #[.val (.long p1), .second, .val (.long p2), .second, .val (.long p3), .second, .val (.long p4), .second, .val (.int p5), .val (.long p1), .second, .val (.long p2), .second, .val (.int ((XT.ushr p5 (2 : Int32)) &&& (3 : Int32))), .val (.ref b238), .val (.ref b250), .unset, .val (.int (1 : Int32)), .val (.int (1 : Int32))] [(.int (1 : Int32))]))
        refine own_st (fun _ k => XS.ifNo X255.here hx rfl (hb hby at_97) rfl (XT.i0_eq_f (by decide)) k) ?_
        show own_Go p e below s _ _ _ (T255.setTop (mkF m 100 #[.val (.long p1), .second, .val (.long p2), .second, .val (.long p3), .second, .val (.long p4), .second, .val (.int p5), .val (.long p1), .second, .val (.long p2), .second, .val (.int ((XT.ushr p5 (2 : Int32)) &&& (3 : Int32))), .val (.ref b238), .val (.ref b250), .unset, .val (.int (1 : Int32)), .val (.int (1 : Int32))] []))
        refine own_st (fun _ k => XS.iload X255.here hx rfl (hb hby at_100) rfl k) ?_
        show own_Go p e below s _ _ _ (T255.setTop (mkF m 102 #[.val (.long p1), .second, .val (.long p2), .second, .val (.long p3), .second, .val (.long p4), .second, .val (.int p5), .val (.long p1), .second, .val (.long p2), .second, .val (.int ((XT.ushr p5 (2 : Int32)) &&& (3 : Int32))), .val (.ref b238), .val (.ref b250), .unset, .val (.int (1 : Int32)), .val (.int (1 : Int32))] [(.int (1 : Int32))]))
        refine own_st (fun _ k => XS.ifNo X255.here hx rfl (hb hby at_102) rfl (XT.i0_eq_f (by decide)) k) ?_
        show own_Go p e below s _ _ _ (T255.setTop (mkF m 105 #[.val (.long p1), .second, .val (.long p2), .second, .val (.long p3), .second, .val (.long p4), .second, .val (.int p5), .val (.long p1), .second, .val (.long p2), .second, .val (.int ((XT.ushr p5 (2 : Int32)) &&& (3 : Int32))), .val (.ref b238), .val (.ref b250), .unset, .val (.int (1 : Int32)), .val (.int (1 : Int32))] []))
        refine own_st (fun _ k => XT.iconstV X255.here hx rfl (1 : Int32) (hb hby at_105) (by decide) k) ?_
        show own_Go p e below s _ _ _ (T255.setTop (mkF m 106 #[.val (.long p1), .second, .val (.long p2), .second, .val (.long p3), .second, .val (.long p4), .second, .val (.int p5), .val (.long p1), .second, .val (.long p2), .second, .val (.int ((XT.ushr p5 (2 : Int32)) &&& (3 : Int32))), .val (.ref b238), .val (.ref b250), .unset, .val (.int (1 : Int32)), .val (.int (1 : Int32))] [(.int (1 : Int32))]))
        refine own_st (fun _ k => XS.goto X255.here hx rfl (pc0 := 106) (pc' := 110) rfl (hb hby at_106) (by decide) (by decide) k) ?_
        show own_Go p e below s _ _ _ (T255.setTop (mkF m 110 #[.val (.long p1), .second, .val (.long p2), .second, .val (.long p3), .second, .val (.long p4), .second, .val (.int p5), .val (.long p1), .second, .val (.long p2), .second, .val (.int ((XT.ushr p5 (2 : Int32)) &&& (3 : Int32))), .val (.ref b238), .val (.ref b250), .unset, .val (.int (1 : Int32)), .val (.int (1 : Int32))] [(.int (1 : Int32))]))
        refine own_st (fun _ k => XS.istore X255.here hx rfl (hb hby at_110) rfl (l' := #[.val (.long p1), .second, .val (.long p2), .second, .val (.long p3), .second, .val (.long p4), .second, .val (.int p5), .val (.long p1), .second, .val (.long p2), .second, .val (.int ((XT.ushr p5 (2 : Int32)) &&& (3 : Int32))), .val (.ref b238), .val (.ref b250), .val (.int (1 : Int32)), .val (.int (1 : Int32)), .val (.int (1 : Int32))]) rfl k) ?_
        show own_Go p e below s _ _ _ (T255.setTop (mkF m 112 #[.val (.long p1), .second, .val (.long p2), .second, .val (.long p3), .second, .val (.long p4), .second, .val (.int p5), .val (.long p1), .second, .val (.long p2), .second, .val (.int ((XT.ushr p5 (2 : Int32)) &&& (3 : Int32))), .val (.ref b238), .val (.ref b250), .val (.int (1 : Int32)), .val (.int (1 : Int32)), .val (.int (1 : Int32))] []))
        refine own_st (fun _ k => XS.goto X255.here hx rfl (pc0 := 112) (pc' := 155) rfl (hb hby at_112) (by decide) (by decide) k) ?_
        show own_Go p e below s _ _ _ (T255.setTop (mkF m 155 #[.val (.long p1), .second, .val (.long p2), .second, .val (.long p3), .second, .val (.long p4), .second, .val (.int p5), .val (.long p1), .second, .val (.long p2), .second, .val (.int ((XT.ushr p5 (2 : Int32)) &&& (3 : Int32))), .val (.ref b238), .val (.ref b250), .val (.int (1 : Int32)), .val (.int (1 : Int32)), .val (.int (1 : Int32))] []))
        refine own_st (fun _ k => XS.aload X255.here hx rfl (hb hby at_155) rfl rfl k) ?_
        show own_Go p e below s _ _ _ (T255.setTop (mkF m 157 #[.val (.long p1), .second, .val (.long p2), .second, .val (.long p3), .second, .val (.long p4), .second, .val (.int p5), .val (.long p1), .second, .val (.long p2), .second, .val (.int ((XT.ushr p5 (2 : Int32)) &&& (3 : Int32))), .val (.ref b238), .val (.ref b250), .val (.int (1 : Int32)), .val (.int (1 : Int32)), .val (.int (1 : Int32))] [(.ref b238)]))
        refine own_st (fun _ k => XS.aload X255.here hx rfl (hb hby at_157) rfl rfl k) ?_
        show own_Go p e below s _ _ _ (T255.setTop (mkF m 159 #[.val (.long p1), .second, .val (.long p2), .second, .val (.long p3), .second, .val (.long p4), .second, .val (.int p5), .val (.long p1), .second, .val (.long p2), .second, .val (.int ((XT.ushr p5 (2 : Int32)) &&& (3 : Int32))), .val (.ref b238), .val (.ref b250), .val (.int (1 : Int32)), .val (.int (1 : Int32)), .val (.int (1 : Int32))] [(.ref b250), (.ref b238)]))
        have F262 : Exa Z T255.heap b238 "com/example/epoch/epoch/protocol/record/AbortedTransaction" := ((q244.ext E250).keep K255)
        have ne263 : b238 ≠ b250 := Nat.ne_of_lt (Nat.lt_of_lt_of_le (Nat.lt_of_lt_of_le A238.lt K243.1) (Nat.le_of_eq g250.symm))
        have F264 : Fld Z T255.heap b238 "com/example/epoch/epoch/protocol/record/AbortedTransaction" "producerId" "J" (.long p1) := ((q245.ext E250).keep K255 (ninS ne263 nin0))
        have F265 : Fld Z T255.heap b238 "com/example/epoch/epoch/protocol/record/AbortedTransaction" "firstOffset" "J" (.long p2) := ((q246.ext E250).keep K255 (ninS ne263 nin0))
        obtain ⟨cq261, kq261, q261a, q261b, q261c⟩ := isOf hZ rfl F262
        obtain ⟨_, _, ⟨T261, L261, k261, n261⟩, -, X261, ⟨Lc261, hQ261, l261, y261, z261⟩, st261⟩ := X255.virtualBack hx (y := (⟨"com/example/epoch/epoch/protocol/record/AbortedTransaction", "equals", "(Ljava/lang/Object;)Z"⟩ : MethodName)) (z := (⟨"com/example/epoch/epoch/protocol/record/AbortedTransaction", "equals", "(Ljava/lang/Object;)Z"⟩ : MethodName)) hown (mvT hZ (hw _ (List.mem_of_getElem? (i := 13) rfl))) (mvT hZ (hw _ (List.mem_of_getElem? (i := 14) rfl))) (notFace_of_selects (args := #[]) (mvT hZ (hw _ (List.mem_of_getElem? (i := 16) rfl)))) (mvT hZ (hw _ (List.mem_of_getElem? (i := 16) rfl))) (mvT hZ (hw _ (List.mem_of_getElem? (i := 15) rfl))) (by decide) (backOf (W := 0) (own_rm_eqA l Z a0 hw [] b238 b250 p1 p2 p1 p2 T255.heap n0 Zs260 q256 F264 F265 q257 q258) hZ (hw _ (List.mem_of_getElem? (i := 17) rfl)) (hw _ (List.mem_of_getElem? (i := 2) rfl)) (by decide) (by decide)) q261a q261c (g := (mkF m 159 #[.val (.long p1), .second, .val (.long p2), .second, .val (.long p3), .second, .val (.long p4), .second, .val (.int p5), .val (.long p1), .second, .val (.long p2), .second, .val (.int ((XT.ushr p5 (2 : Int32)) &&& (3 : Int32))), .val (.ref b238), .val (.ref b250), .val (.int (1 : Int32)), .val (.int (1 : Int32)), .val (.int (1 : Int32))] [(.ref b250), (.ref b238)])) rfl (by rw [hml]; rfl) (Steps.refl _) (argsL := [(.ref b250)]) (rest := []) (lenOf own_pd3 rfl) rfl (by show 2 * 0 + _ ≤ _; exact Nat.le_of_eq rfl) (hb hby at_159) (fun _ _ => ⟨rfl, rfl, (by decide : 2 + 0 ≤ _), (by decide : 4 + 0 ≤ _)⟩)
        dsimp only [Pt.U, Pt.locs, Pt.cells, Pt.slots] at X261 l261 y261 z261 st261 hQ261
        subst l261 y261 z261
        obtain ⟨N261q, rfl, eh261⟩ := hQ261
        have N266 := Fr.app N259 N261q
        refine own_tr st261 ?_
        show own_Go p e below s _ _ _ (T261.setTop (mkF m 162 #[.val (.long p1), .second, .val (.long p2), .second, .val (.long p3), .second, .val (.long p4), .second, .val (.int p5), .val (.long p1), .second, .val (.long p2), .second, .val (.int ((XT.ushr p5 (2 : Int32)) &&& (3 : Int32))), .val (.ref b238), .val (.ref b250), .val (.int (1 : Int32)), .val (.int (1 : Int32)), .val (.int (1 : Int32))] [(.int (if p1 = p1 then (if p2 = p2 then (1 : Int32) else 0) else 0))]))
        refine own_st (fun _ k => XS.iload X261.here hx rfl (hb hby at_162) rfl k) ?_
        show own_Go p e below s _ _ _ (T261.setTop (mkF m 164 #[.val (.long p1), .second, .val (.long p2), .second, .val (.long p3), .second, .val (.long p4), .second, .val (.int p5), .val (.long p1), .second, .val (.long p2), .second, .val (.int ((XT.ushr p5 (2 : Int32)) &&& (3 : Int32))), .val (.ref b238), .val (.ref b250), .val (.int (1 : Int32)), .val (.int (1 : Int32)), .val (.int (1 : Int32))] [(.int (1 : Int32)), (.int (if p1 = p1 then (if p2 = p2 then (1 : Int32) else 0) else 0))]))
        refine own_st (fun _ k => XS.icmpNo X261.here hx rfl (hb hby at_164) rfl (XT.ii_ne_f (by simp [])) k) ?_
        show own_Go p e below s _ _ _ (T261.setTop (mkF m 167 #[.val (.long p1), .second, .val (.long p2), .second, .val (.long p3), .second, .val (.long p4), .second, .val (.int p5), .val (.long p1), .second, .val (.long p2), .second, .val (.int ((XT.ushr p5 (2 : Int32)) &&& (3 : Int32))), .val (.ref b238), .val (.ref b250), .val (.int (1 : Int32)), .val (.int (1 : Int32)), .val (.int (1 : Int32))] []))
        refine own_st (fun _ k => XT.iconstV X261.here hx rfl (1 : Int32) (hb hby at_167) (by decide) k) ?_
        show own_Go p e below s _ _ _ (T261.setTop (mkF m 168 #[.val (.long p1), .second, .val (.long p2), .second, .val (.long p3), .second, .val (.long p4), .second, .val (.int p5), .val (.long p1), .second, .val (.long p2), .second, .val (.int ((XT.ushr p5 (2 : Int32)) &&& (3 : Int32))), .val (.ref b238), .val (.ref b250), .val (.int (1 : Int32)), .val (.int (1 : Int32)), .val (.int (1 : Int32))] [(.int (1 : Int32))]))
        refine own_st (fun _ k => XS.goto X261.here hx rfl (pc0 := 168) (pc' := 172) rfl (hb hby at_168) (by decide) (by decide) k) ?_
        show own_Go p e below s _ _ _ (T261.setTop (mkF m 172 #[.val (.long p1), .second, .val (.long p2), .second, .val (.long p3), .second, .val (.long p4), .second, .val (.int p5), .val (.long p1), .second, .val (.long p2), .second, .val (.int ((XT.ushr p5 (2 : Int32)) &&& (3 : Int32))), .val (.ref b238), .val (.ref b250), .val (.int (1 : Int32)), .val (.int (1 : Int32)), .val (.int (1 : Int32))] [(.int (1 : Int32))]))
        refine own_retN X261 hx hlk Bd.returns (t := .boolean) (z' := (1 : Int32)) (by simp) (by decide) (hb hby at_172) (by decide) (by decide) ?_
        rw [eh261]
        exact ⟨N266, rfl⟩
      · refine own_st (fun _ k => XS.ifYes X243.here hx rfl (pc0 := 51) (pc' := 115) rfl (hb hby at_51) rfl (XT.i0_ne_t hc249) (by decide) (by decide) k) ?_
        show own_Go p e below s _ _ _ (T243.setTop (mkF m 115 #[.val (.long p1), .second, .val (.long p2), .second, .val (.long p3), .second, .val (.long p4), .second, .val (.int p5), .val (.long p1), .second, .val (.long p2), .second, .val (.int ((XT.ushr p5 (2 : Int32)) &&& (3 : Int32))), .val (.ref b238), .unset, .unset, .unset, .unset] []))
        refine own_st (fun _ k => XS.iload X243.here hx rfl (hb hby at_115) rfl k) ?_
        show own_Go p e below s _ _ _ (T243.setTop (mkF m 117 #[.val (.long p1), .second, .val (.long p2), .second, .val (.long p3), .second, .val (.long p4), .second, .val (.int p5), .val (.long p1), .second, .val (.long p2), .second, .val (.int ((XT.ushr p5 (2 : Int32)) &&& (3 : Int32))), .val (.ref b238), .unset, .unset, .unset, .unset] [(.int ((XT.ushr p5 (2 : Int32)) &&& (3 : Int32)))]))
        refine own_st (fun _ k => XT.iconstV X243.here hx rfl (1 : Int32) (hb hby at_117) (by decide) k) ?_
        show own_Go p e below s _ _ _ (T243.setTop (mkF m 118 #[.val (.long p1), .second, .val (.long p2), .second, .val (.long p3), .second, .val (.long p4), .second, .val (.int p5), .val (.long p1), .second, .val (.long p2), .second, .val (.int ((XT.ushr p5 (2 : Int32)) &&& (3 : Int32))), .val (.ref b238), .unset, .unset, .unset, .unset] [(.int (1 : Int32)), (.int ((XT.ushr p5 (2 : Int32)) &&& (3 : Int32)))]))
        by_cases hc267 : ((XT.ushr p5 (2 : Int32)) &&& (3 : Int32)) = (1 : Int32)
        · refine own_st (fun _ k => XS.icmpNo X243.here hx rfl (hb hby at_118) rfl (XT.ii_ne_f hc267) k) ?_
          show own_Go p e below s _ _ _ (T243.setTop (mkF m 121 #[.val (.long p1), .second, .val (.long p2), .second, .val (.long p3), .second, .val (.long p4), .second, .val (.int p5), .val (.long p1), .second, .val (.long p2), .second, .val (.int ((XT.ushr p5 (2 : Int32)) &&& (3 : Int32))), .val (.ref b238), .unset, .unset, .unset, .unset] []))
          refine own_st (fun _ k => XS.aconstNull X243.here hx rfl (hb hby at_121) k) ?_
          show own_Go p e below s _ _ _ (T243.setTop (mkF m 122 #[.val (.long p1), .second, .val (.long p2), .second, .val (.long p3), .second, .val (.long p4), .second, .val (.int p5), .val (.long p1), .second, .val (.long p2), .second, .val (.int ((XT.ushr p5 (2 : Int32)) &&& (3 : Int32))), .val (.ref b238), .unset, .unset, .unset, .unset] [.null]))
          refine own_st (fun _ k => XS.astore X243.here hx rfl (hb hby at_122) rfl rfl (l' := #[.val (.long p1), .second, .val (.long p2), .second, .val (.long p3), .second, .val (.long p4), .second, .val (.int p5), .val (.long p1), .second, .val (.long p2), .second, .val (.int ((XT.ushr p5 (2 : Int32)) &&& (3 : Int32))), .val (.ref b238), .val .null, .unset, .unset, .unset]) rfl k) ?_
          show own_Go p e below s _ _ _ (T243.setTop (mkF m 124 #[.val (.long p1), .second, .val (.long p2), .second, .val (.long p3), .second, .val (.long p4), .second, .val (.int p5), .val (.long p1), .second, .val (.long p2), .second, .val (.int ((XT.ushr p5 (2 : Int32)) &&& (3 : Int32))), .val (.ref b238), .val .null, .unset, .unset, .unset] []))
          refine own_st (fun _ k => XT.iconstV X243.here hx rfl (0 : Int32) (hb hby at_124) (by decide) k) ?_
          show own_Go p e below s _ _ _ (T243.setTop (mkF m 125 #[.val (.long p1), .second, .val (.long p2), .second, .val (.long p3), .second, .val (.long p4), .second, .val (.int p5), .val (.long p1), .second, .val (.long p2), .second, .val (.int ((XT.ushr p5 (2 : Int32)) &&& (3 : Int32))), .val (.ref b238), .val .null, .unset, .unset, .unset] [(.int (0 : Int32))]))
          refine own_st (fun _ k => XS.istore X243.here hx rfl (hb hby at_125) rfl (l' := #[.val (.long p1), .second, .val (.long p2), .second, .val (.long p3), .second, .val (.long p4), .second, .val (.int p5), .val (.long p1), .second, .val (.long p2), .second, .val (.int ((XT.ushr p5 (2 : Int32)) &&& (3 : Int32))), .val (.ref b238), .val .null, .val (.int (0 : Int32)), .unset, .unset]) rfl k) ?_
          show own_Go p e below s _ _ _ (T243.setTop (mkF m 127 #[.val (.long p1), .second, .val (.long p2), .second, .val (.long p3), .second, .val (.long p4), .second, .val (.int p5), .val (.long p1), .second, .val (.long p2), .second, .val (.int ((XT.ushr p5 (2 : Int32)) &&& (3 : Int32))), .val (.ref b238), .val .null, .val (.int (0 : Int32)), .unset, .unset] []))
          refine own_st (fun _ k => XS.goto X243.here hx rfl (pc0 := 127) (pc' := 155) rfl (hb hby at_127) (by decide) (by decide) k) ?_
          show own_Go p e below s _ _ _ (T243.setTop (mkF m 155 #[.val (.long p1), .second, .val (.long p2), .second, .val (.long p3), .second, .val (.long p4), .second, .val (.int p5), .val (.long p1), .second, .val (.long p2), .second, .val (.int ((XT.ushr p5 (2 : Int32)) &&& (3 : Int32))), .val (.ref b238), .val .null, .val (.int (0 : Int32)), .unset, .unset] []))
          refine own_st (fun _ k => XS.aload X243.here hx rfl (hb hby at_155) rfl rfl k) ?_
          show own_Go p e below s _ _ _ (T243.setTop (mkF m 157 #[.val (.long p1), .second, .val (.long p2), .second, .val (.long p3), .second, .val (.long p4), .second, .val (.int p5), .val (.long p1), .second, .val (.long p2), .second, .val (.int ((XT.ushr p5 (2 : Int32)) &&& (3 : Int32))), .val (.ref b238), .val .null, .val (.int (0 : Int32)), .unset, .unset] [(.ref b238)]))
          refine own_st (fun _ k => XS.aload X243.here hx rfl (hb hby at_157) rfl rfl k) ?_
          show own_Go p e below s _ _ _ (T243.setTop (mkF m 159 #[.val (.long p1), .second, .val (.long p2), .second, .val (.long p3), .second, .val (.long p4), .second, .val (.int p5), .val (.long p1), .second, .val (.long p2), .second, .val (.int ((XT.ushr p5 (2 : Int32)) &&& (3 : Int32))), .val (.ref b238), .val .null, .val (.int (0 : Int32)), .unset, .unset] [.null, (.ref b238)]))
          obtain ⟨cq268, kq268, q268a, q268b, q268c⟩ := isOf hZ rfl q244
          obtain ⟨_, _, ⟨T268, L268, k268, n268⟩, -, X268, ⟨Lc268, hQ268, l268, y268, z268⟩, st268⟩ := X243.virtualBack hx (y := (⟨"com/example/epoch/epoch/protocol/record/AbortedTransaction", "equals", "(Ljava/lang/Object;)Z"⟩ : MethodName)) (z := (⟨"com/example/epoch/epoch/protocol/record/AbortedTransaction", "equals", "(Ljava/lang/Object;)Z"⟩ : MethodName)) hown (mvT hZ (hw _ (List.mem_of_getElem? (i := 13) rfl))) (mvT hZ (hw _ (List.mem_of_getElem? (i := 14) rfl))) (notFace_of_selects (args := #[]) (mvT hZ (hw _ (List.mem_of_getElem? (i := 16) rfl)))) (mvT hZ (hw _ (List.mem_of_getElem? (i := 16) rfl))) (mvT hZ (hw _ (List.mem_of_getElem? (i := 15) rfl))) (by decide) (backOf (W := 0) (own_rm_eqN l Z a0 hw [] b238 T243.heap n0 Zs248 ) hZ (hw _ (List.mem_of_getElem? (i := 17) rfl)) (hw _ (List.mem_of_getElem? (i := 2) rfl)) (by decide) (by decide)) q268a q268c (g := (mkF m 159 #[.val (.long p1), .second, .val (.long p2), .second, .val (.long p3), .second, .val (.long p4), .second, .val (.int p5), .val (.long p1), .second, .val (.long p2), .second, .val (.int ((XT.ushr p5 (2 : Int32)) &&& (3 : Int32))), .val (.ref b238), .val .null, .val (.int (0 : Int32)), .unset, .unset] [.null, (.ref b238)])) rfl (by rw [hml]; rfl) (Steps.refl _) (argsL := [.null]) (rest := []) (lenOf own_pd3 rfl) rfl (by show 2 * 0 + _ ≤ _; exact Nat.le_of_eq rfl) (hb hby at_159) (fun _ _ => ⟨rfl, rfl, (by decide : 1 + 0 ≤ _), (by decide : 2 + 0 ≤ _)⟩)
          dsimp only [Pt.U, Pt.locs, Pt.cells, Pt.slots] at X268 l268 y268 z268 st268 hQ268
          subst l268 y268 z268
          obtain ⟨N268q, rfl, eh268⟩ := hQ268
          have N269 := Fr.app N247 N268q
          refine own_tr st268 ?_
          show own_Go p e below s _ _ _ (T268.setTop (mkF m 162 #[.val (.long p1), .second, .val (.long p2), .second, .val (.long p3), .second, .val (.long p4), .second, .val (.int p5), .val (.long p1), .second, .val (.long p2), .second, .val (.int ((XT.ushr p5 (2 : Int32)) &&& (3 : Int32))), .val (.ref b238), .val .null, .val (.int (0 : Int32)), .unset, .unset] [(.int (0 : Int32))]))
          refine own_st (fun _ k => XS.iload X268.here hx rfl (hb hby at_162) rfl k) ?_
          show own_Go p e below s _ _ _ (T268.setTop (mkF m 164 #[.val (.long p1), .second, .val (.long p2), .second, .val (.long p3), .second, .val (.long p4), .second, .val (.int p5), .val (.long p1), .second, .val (.long p2), .second, .val (.int ((XT.ushr p5 (2 : Int32)) &&& (3 : Int32))), .val (.ref b238), .val .null, .val (.int (0 : Int32)), .unset, .unset] [(.int (0 : Int32)), (.int (0 : Int32))]))
          refine own_st (fun _ k => XS.icmpNo X268.here hx rfl (hb hby at_164) rfl (XT.ii_ne_f rfl) k) ?_
          show own_Go p e below s _ _ _ (T268.setTop (mkF m 167 #[.val (.long p1), .second, .val (.long p2), .second, .val (.long p3), .second, .val (.long p4), .second, .val (.int p5), .val (.long p1), .second, .val (.long p2), .second, .val (.int ((XT.ushr p5 (2 : Int32)) &&& (3 : Int32))), .val (.ref b238), .val .null, .val (.int (0 : Int32)), .unset, .unset] []))
          refine own_st (fun _ k => XT.iconstV X268.here hx rfl (1 : Int32) (hb hby at_167) (by decide) k) ?_
          show own_Go p e below s _ _ _ (T268.setTop (mkF m 168 #[.val (.long p1), .second, .val (.long p2), .second, .val (.long p3), .second, .val (.long p4), .second, .val (.int p5), .val (.long p1), .second, .val (.long p2), .second, .val (.int ((XT.ushr p5 (2 : Int32)) &&& (3 : Int32))), .val (.ref b238), .val .null, .val (.int (0 : Int32)), .unset, .unset] [(.int (1 : Int32))]))
          refine own_st (fun _ k => XS.goto X268.here hx rfl (pc0 := 168) (pc' := 172) rfl (hb hby at_168) (by decide) (by decide) k) ?_
          show own_Go p e below s _ _ _ (T268.setTop (mkF m 172 #[.val (.long p1), .second, .val (.long p2), .second, .val (.long p3), .second, .val (.long p4), .second, .val (.int p5), .val (.long p1), .second, .val (.long p2), .second, .val (.int ((XT.ushr p5 (2 : Int32)) &&& (3 : Int32))), .val (.ref b238), .val .null, .val (.int (0 : Int32)), .unset, .unset] [(.int (1 : Int32))]))
          refine own_retN X268 hx hlk Bd.returns (t := .boolean) (z' := (1 : Int32)) (by simp) (by decide) (hb hby at_172) (by decide) (by decide) ?_
          rw [eh268]
          exact ⟨N269, rfl⟩
        · refine own_st (fun _ k => XS.icmpYes X243.here hx rfl (pc0 := 118) (pc' := 130) rfl (hb hby at_118) rfl (XT.ii_ne_t hc267) (by decide) (by decide) k) ?_
          show own_Go p e below s _ _ _ (T243.setTop (mkF m 130 #[.val (.long p1), .second, .val (.long p2), .second, .val (.long p3), .second, .val (.long p4), .second, .val (.int p5), .val (.long p1), .second, .val (.long p2), .second, .val (.int ((XT.ushr p5 (2 : Int32)) &&& (3 : Int32))), .val (.ref b238), .unset, .unset, .unset, .unset] []))
          refine own_st (fun _ k => XS.iload X243.here hx rfl (hb hby at_130) rfl k) ?_
          show own_Go p e below s _ _ _ (T243.setTop (mkF m 132 #[.val (.long p1), .second, .val (.long p2), .second, .val (.long p3), .second, .val (.long p4), .second, .val (.int p5), .val (.long p1), .second, .val (.long p2), .second, .val (.int ((XT.ushr p5 (2 : Int32)) &&& (3 : Int32))), .val (.ref b238), .unset, .unset, .unset, .unset] [(.int ((XT.ushr p5 (2 : Int32)) &&& (3 : Int32)))]))
          refine own_st (fun _ k => XT.iconstV X243.here hx rfl (2 : Int32) (hb hby at_132) (by decide) k) ?_
          show own_Go p e below s _ _ _ (T243.setTop (mkF m 133 #[.val (.long p1), .second, .val (.long p2), .second, .val (.long p3), .second, .val (.long p4), .second, .val (.int p5), .val (.long p1), .second, .val (.long p2), .second, .val (.int ((XT.ushr p5 (2 : Int32)) &&& (3 : Int32))), .val (.ref b238), .unset, .unset, .unset, .unset] [(.int (2 : Int32)), (.int ((XT.ushr p5 (2 : Int32)) &&& (3 : Int32)))]))
          by_cases hc270 : ((XT.ushr p5 (2 : Int32)) &&& (3 : Int32)) = (2 : Int32)
          · refine own_st (fun _ k => XS.icmpNo X243.here hx rfl (hb hby at_133) rfl (XT.ii_ne_f hc270) k) ?_
            show own_Go p e below s _ _ _ (T243.setTop (mkF m 136 #[.val (.long p1), .second, .val (.long p2), .second, .val (.long p3), .second, .val (.long p4), .second, .val (.int p5), .val (.long p1), .second, .val (.long p2), .second, .val (.int ((XT.ushr p5 (2 : Int32)) &&& (3 : Int32))), .val (.ref b238), .unset, .unset, .unset, .unset] []))
            refine own_st (fun _ k => XT.lloadN X243.here hx rfl (hb hby at_136) rfl k) ?_
            show own_Go p e below s _ _ _ (T243.setTop (mkF m 137 #[.val (.long p1), .second, .val (.long p2), .second, .val (.long p3), .second, .val (.long p4), .second, .val (.int p5), .val (.long p1), .second, .val (.long p2), .second, .val (.int ((XT.ushr p5 (2 : Int32)) &&& (3 : Int32))), .val (.ref b238), .unset, .unset, .unset, .unset] [(.long p1)]))
            have O272 : Old Z n0 T243.heap := ((O0.ext E238).keep K243 (allS g240 all0))
            obtain ⟨_, _, ⟨T271, L271, k271, n271⟩, -, X271, ⟨Lc271, hQ271, l271, y271, z271⟩, st271⟩ := Jvm.LawKit.callS X243 hx (y := (⟨"java/lang/Long", "valueOf", "(J)Ljava/lang/Long;"⟩ : MethodName)) hown (mvT hZ (hw _ (List.mem_of_getElem? (i := 20) rfl))) (mvT hZ (hw _ (List.mem_of_getElem? (i := 21) rfl))) (mvT hZ (hw _ (List.mem_of_getElem? (i := 22) rfl))) (mvT hZ (hw _ (List.mem_of_getElem? (i := 23) rfl))) (by decide) (backOf (W := 0) (own_rm_valueOfJ l Z a0 hw [] p1 a_cacheJ T243.heap n0 Zs248 O272 S_cacheJ BxJ) hZ (hw _ (List.mem_of_getElem? (i := 23) rfl)) (hw _ (List.mem_of_getElem? (i := 22) rfl)) (by decide) (by decide)) (g := (mkF m 137 #[.val (.long p1), .second, .val (.long p2), .second, .val (.long p3), .second, .val (.long p4), .second, .val (.int p5), .val (.long p1), .second, .val (.long p2), .second, .val (.int ((XT.ushr p5 (2 : Int32)) &&& (3 : Int32))), .val (.ref b238), .unset, .unset, .unset, .unset] [(.long p1)])) rfl (by rw [hml]; rfl) (argsL := [(.long p1)]) (rest := []) (lenOf own_pd4 rfl) rfl (by show 2 * 0 + _ ≤ _; exact Nat.le_of_eq rfl) (hb hby at_137) (fun _ _ => ⟨rfl, rfl, (by decide : 1 + 1 ≤ _), (by decide : 2 + 1 ≤ _)⟩)
            dsimp only [Pt.U, Pt.locs, Pt.cells, Pt.slots] at X271 l271 y271 z271 st271 hQ271
            subst l271 y271 z271
            obtain ⟨x273, N271q, rfl, K271, q274, q275⟩ := hQ271
            have N276 := Fr.app N247 N271q
            refine own_st st271 ?_
            have Zs277 : n0 ≤ T271.heap.size := Nat.le_trans Zs248 K271.1
            show own_Go p e below s _ _ _ (T271.setTop (mkF m 140 #[.val (.long p1), .second, .val (.long p2), .second, .val (.long p3), .second, .val (.long p4), .second, .val (.int p5), .val (.long p1), .second, .val (.long p2), .second, .val (.int ((XT.ushr p5 (2 : Int32)) &&& (3 : Int32))), .val (.ref b238), .unset, .unset, .unset, .unset] [(.ref x273)]))
            refine own_st (fun _ k => XS.astore X271.here hx rfl (hb hby at_140) rfl rfl (l' := #[.val (.long p1), .second, .val (.long p2), .second, .val (.long p3), .second, .val (.long p4), .second, .val (.int p5), .val (.long p1), .second, .val (.long p2), .second, .val (.int ((XT.ushr p5 (2 : Int32)) &&& (3 : Int32))), .val (.ref b238), .val (.ref x273), .unset, .unset, .unset]) rfl k) ?_
            show own_Go p e below s _ _ _ (T271.setTop (mkF m 142 #[.val (.long p1), .second, .val (.long p2), .second, .val (.long p3), .second, .val (.long p4), .second, .val (.int p5), .val (.long p1), .second, .val (.long p2), .second, .val (.int ((XT.ushr p5 (2 : Int32)) &&& (3 : Int32))), .val (.ref b238), .val (.ref x273), .unset, .unset, .unset] []))
            refine own_st (fun _ k => XT.iconstV X271.here hx rfl (0 : Int32) (hb hby at_142) (by decide) k) ?_
            show own_Go p e below s _ _ _ (T271.setTop (mkF m 143 #[.val (.long p1), .second, .val (.long p2), .second, .val (.long p3), .second, .val (.long p4), .second, .val (.int p5), .val (.long p1), .second, .val (.long p2), .second, .val (.int ((XT.ushr p5 (2 : Int32)) &&& (3 : Int32))), .val (.ref b238), .val (.ref x273), .unset, .unset, .unset] [(.int (0 : Int32))]))
            refine own_st (fun _ k => XS.istore X271.here hx rfl (hb hby at_143) rfl (l' := #[.val (.long p1), .second, .val (.long p2), .second, .val (.long p3), .second, .val (.long p4), .second, .val (.int p5), .val (.long p1), .second, .val (.long p2), .second, .val (.int ((XT.ushr p5 (2 : Int32)) &&& (3 : Int32))), .val (.ref b238), .val (.ref x273), .val (.int (0 : Int32)), .unset, .unset]) rfl k) ?_
            show own_Go p e below s _ _ _ (T271.setTop (mkF m 145 #[.val (.long p1), .second, .val (.long p2), .second, .val (.long p3), .second, .val (.long p4), .second, .val (.int p5), .val (.long p1), .second, .val (.long p2), .second, .val (.int ((XT.ushr p5 (2 : Int32)) &&& (3 : Int32))), .val (.ref b238), .val (.ref x273), .val (.int (0 : Int32)), .unset, .unset] []))
            refine own_st (fun _ k => XS.goto X271.here hx rfl (pc0 := 145) (pc' := 155) rfl (hb hby at_145) (by decide) (by decide) k) ?_
            show own_Go p e below s _ _ _ (T271.setTop (mkF m 155 #[.val (.long p1), .second, .val (.long p2), .second, .val (.long p3), .second, .val (.long p4), .second, .val (.int p5), .val (.long p1), .second, .val (.long p2), .second, .val (.int ((XT.ushr p5 (2 : Int32)) &&& (3 : Int32))), .val (.ref b238), .val (.ref x273), .val (.int (0 : Int32)), .unset, .unset] []))
            refine own_st (fun _ k => XS.aload X271.here hx rfl (hb hby at_155) rfl rfl k) ?_
            show own_Go p e below s _ _ _ (T271.setTop (mkF m 157 #[.val (.long p1), .second, .val (.long p2), .second, .val (.long p3), .second, .val (.long p4), .second, .val (.int p5), .val (.long p1), .second, .val (.long p2), .second, .val (.int ((XT.ushr p5 (2 : Int32)) &&& (3 : Int32))), .val (.ref b238), .val (.ref x273), .val (.int (0 : Int32)), .unset, .unset] [(.ref b238)]))
            refine own_st (fun _ k => XS.aload X271.here hx rfl (hb hby at_157) rfl rfl k) ?_
            show own_Go p e below s _ _ _ (T271.setTop (mkF m 159 #[.val (.long p1), .second, .val (.long p2), .second, .val (.long p3), .second, .val (.long p4), .second, .val (.int p5), .val (.long p1), .second, .val (.long p2), .second, .val (.int ((XT.ushr p5 (2 : Int32)) &&& (3 : Int32))), .val (.ref b238), .val (.ref x273), .val (.int (0 : Int32)), .unset, .unset] [(.ref x273), (.ref b238)]))
            have F279 : Exa Z T271.heap b238 "com/example/epoch/epoch/protocol/record/AbortedTransaction" := (q244.keep K271)
            obtain ⟨cq278, kq278, q278a, q278b, q278c⟩ := isOf hZ rfl F279
            obtain ⟨_, _, ⟨T278, L278, k278, n278⟩, -, X278, ⟨Lc278, hQ278, l278, y278, z278⟩, st278⟩ := X271.virtualBack hx (y := (⟨"com/example/epoch/epoch/protocol/record/AbortedTransaction", "equals", "(Ljava/lang/Object;)Z"⟩ : MethodName)) (z := (⟨"com/example/epoch/epoch/protocol/record/AbortedTransaction", "equals", "(Ljava/lang/Object;)Z"⟩ : MethodName)) hown (mvT hZ (hw _ (List.mem_of_getElem? (i := 13) rfl))) (mvT hZ (hw _ (List.mem_of_getElem? (i := 14) rfl))) (notFace_of_selects (args := #[]) (mvT hZ (hw _ (List.mem_of_getElem? (i := 16) rfl)))) (mvT hZ (hw _ (List.mem_of_getElem? (i := 16) rfl))) (mvT hZ (hw _ (List.mem_of_getElem? (i := 15) rfl))) (by decide) (backOf (W := 0) (own_rm_eqL l Z a0 hw [] b238 x273 T271.heap n0 Zs277 q274) hZ (hw _ (List.mem_of_getElem? (i := 17) rfl)) (hw _ (List.mem_of_getElem? (i := 2) rfl)) (by decide) (by decide)) q278a q278c (g := (mkF m 159 #[.val (.long p1), .second, .val (.long p2), .second, .val (.long p3), .second, .val (.long p4), .second, .val (.int p5), .val (.long p1), .second, .val (.long p2), .second, .val (.int ((XT.ushr p5 (2 : Int32)) &&& (3 : Int32))), .val (.ref b238), .val (.ref x273), .val (.int (0 : Int32)), .unset, .unset] [(.ref x273), (.ref b238)])) rfl (by rw [hml]; rfl) (Steps.refl _) (argsL := [(.ref x273)]) (rest := []) (lenOf own_pd3 rfl) rfl (by show 2 * 0 + _ ≤ _; exact Nat.le_of_eq rfl) (hb hby at_159) (fun _ _ => ⟨rfl, rfl, (by decide : 2 + 0 ≤ _), (by decide : 3 + 0 ≤ _)⟩)
            dsimp only [Pt.U, Pt.locs, Pt.cells, Pt.slots] at X278 l278 y278 z278 st278 hQ278
            subst l278 y278 z278
            obtain ⟨N278q, rfl, eh278⟩ := hQ278
            have N280 := Fr.app N276 N278q
            refine own_tr st278 ?_
            show own_Go p e below s _ _ _ (T278.setTop (mkF m 162 #[.val (.long p1), .second, .val (.long p2), .second, .val (.long p3), .second, .val (.long p4), .second, .val (.int p5), .val (.long p1), .second, .val (.long p2), .second, .val (.int ((XT.ushr p5 (2 : Int32)) &&& (3 : Int32))), .val (.ref b238), .val (.ref x273), .val (.int (0 : Int32)), .unset, .unset] [(.int (0 : Int32))]))
            refine own_st (fun _ k => XS.iload X278.here hx rfl (hb hby at_162) rfl k) ?_
            show own_Go p e below s _ _ _ (T278.setTop (mkF m 164 #[.val (.long p1), .second, .val (.long p2), .second, .val (.long p3), .second, .val (.long p4), .second, .val (.int p5), .val (.long p1), .second, .val (.long p2), .second, .val (.int ((XT.ushr p5 (2 : Int32)) &&& (3 : Int32))), .val (.ref b238), .val (.ref x273), .val (.int (0 : Int32)), .unset, .unset] [(.int (0 : Int32)), (.int (0 : Int32))]))
            refine own_st (fun _ k => XS.icmpNo X278.here hx rfl (hb hby at_164) rfl (XT.ii_ne_f rfl) k) ?_
            show own_Go p e below s _ _ _ (T278.setTop (mkF m 167 #[.val (.long p1), .second, .val (.long p2), .second, .val (.long p3), .second, .val (.long p4), .second, .val (.int p5), .val (.long p1), .second, .val (.long p2), .second, .val (.int ((XT.ushr p5 (2 : Int32)) &&& (3 : Int32))), .val (.ref b238), .val (.ref x273), .val (.int (0 : Int32)), .unset, .unset] []))
            refine own_st (fun _ k => XT.iconstV X278.here hx rfl (1 : Int32) (hb hby at_167) (by decide) k) ?_
            show own_Go p e below s _ _ _ (T278.setTop (mkF m 168 #[.val (.long p1), .second, .val (.long p2), .second, .val (.long p3), .second, .val (.long p4), .second, .val (.int p5), .val (.long p1), .second, .val (.long p2), .second, .val (.int ((XT.ushr p5 (2 : Int32)) &&& (3 : Int32))), .val (.ref b238), .val (.ref x273), .val (.int (0 : Int32)), .unset, .unset] [(.int (1 : Int32))]))
            refine own_st (fun _ k => XS.goto X278.here hx rfl (pc0 := 168) (pc' := 172) rfl (hb hby at_168) (by decide) (by decide) k) ?_
            show own_Go p e below s _ _ _ (T278.setTop (mkF m 172 #[.val (.long p1), .second, .val (.long p2), .second, .val (.long p3), .second, .val (.long p4), .second, .val (.int p5), .val (.long p1), .second, .val (.long p2), .second, .val (.int ((XT.ushr p5 (2 : Int32)) &&& (3 : Int32))), .val (.ref b238), .val (.ref x273), .val (.int (0 : Int32)), .unset, .unset] [(.int (1 : Int32))]))
            refine own_retN X278 hx hlk Bd.returns (t := .boolean) (z' := (1 : Int32)) (by simp) (by decide) (hb hby at_172) (by decide) (by decide) ?_
            rw [eh278]
            exact ⟨N280, rfl⟩
          · refine own_st (fun _ k => XS.icmpYes X243.here hx rfl (pc0 := 133) (pc' := 148) rfl (hb hby at_133) rfl (XT.ii_ne_t hc270) (by decide) (by decide) k) ?_
            show own_Go p e below s _ _ _ (T243.setTop (mkF m 148 #[.val (.long p1), .second, .val (.long p2), .second, .val (.long p3), .second, .val (.long p4), .second, .val (.int p5), .val (.long p1), .second, .val (.long p2), .second, .val (.int ((XT.ushr p5 (2 : Int32)) &&& (3 : Int32))), .val (.ref b238), .unset, .unset, .unset, .unset] []))
            refine own_st (fun _ k => XS.aload X243.here hx rfl (hb hby at_148) rfl rfl k) ?_
            show own_Go p e below s _ _ _ (T243.setTop (mkF m 150 #[.val (.long p1), .second, .val (.long p2), .second, .val (.long p3), .second, .val (.long p4), .second, .val (.int p5), .val (.long p1), .second, .val (.long p2), .second, .val (.int ((XT.ushr p5 (2 : Int32)) &&& (3 : Int32))), .val (.ref b238), .unset, .unset, .unset, .unset] [(.ref b238)]))
            refine own_st (fun _ k => XS.astore X243.here hx rfl (hb hby at_150) rfl rfl (l' := #[.val (.long p1), .second, .val (.long p2), .second, .val (.long p3), .second, .val (.long p4), .second, .val (.int p5), .val (.long p1), .second, .val (.long p2), .second, .val (.int ((XT.ushr p5 (2 : Int32)) &&& (3 : Int32))), .val (.ref b238), .val (.ref b238), .unset, .unset, .unset]) rfl k) ?_
            show own_Go p e below s _ _ _ (T243.setTop (mkF m 152 #[.val (.long p1), .second, .val (.long p2), .second, .val (.long p3), .second, .val (.long p4), .second, .val (.int p5), .val (.long p1), .second, .val (.long p2), .second, .val (.int ((XT.ushr p5 (2 : Int32)) &&& (3 : Int32))), .val (.ref b238), .val (.ref b238), .unset, .unset, .unset] []))
            refine own_st (fun _ k => XT.iconstV X243.here hx rfl (1 : Int32) (hb hby at_152) (by decide) k) ?_
            show own_Go p e below s _ _ _ (T243.setTop (mkF m 153 #[.val (.long p1), .second, .val (.long p2), .second, .val (.long p3), .second, .val (.long p4), .second, .val (.int p5), .val (.long p1), .second, .val (.long p2), .second, .val (.int ((XT.ushr p5 (2 : Int32)) &&& (3 : Int32))), .val (.ref b238), .val (.ref b238), .unset, .unset, .unset] [(.int (1 : Int32))]))
            refine own_st (fun _ k => XS.istore X243.here hx rfl (hb hby at_153) rfl (l' := #[.val (.long p1), .second, .val (.long p2), .second, .val (.long p3), .second, .val (.long p4), .second, .val (.int p5), .val (.long p1), .second, .val (.long p2), .second, .val (.int ((XT.ushr p5 (2 : Int32)) &&& (3 : Int32))), .val (.ref b238), .val (.ref b238), .val (.int (1 : Int32)), .unset, .unset]) rfl k) ?_
            show own_Go p e below s _ _ _ (T243.setTop (mkF m 155 #[.val (.long p1), .second, .val (.long p2), .second, .val (.long p3), .second, .val (.long p4), .second, .val (.int p5), .val (.long p1), .second, .val (.long p2), .second, .val (.int ((XT.ushr p5 (2 : Int32)) &&& (3 : Int32))), .val (.ref b238), .val (.ref b238), .val (.int (1 : Int32)), .unset, .unset] []))
            refine own_st (fun _ k => XS.aload X243.here hx rfl (hb hby at_155) rfl rfl k) ?_
            show own_Go p e below s _ _ _ (T243.setTop (mkF m 157 #[.val (.long p1), .second, .val (.long p2), .second, .val (.long p3), .second, .val (.long p4), .second, .val (.int p5), .val (.long p1), .second, .val (.long p2), .second, .val (.int ((XT.ushr p5 (2 : Int32)) &&& (3 : Int32))), .val (.ref b238), .val (.ref b238), .val (.int (1 : Int32)), .unset, .unset] [(.ref b238)]))
            refine own_st (fun _ k => XS.aload X243.here hx rfl (hb hby at_157) rfl rfl k) ?_
            show own_Go p e below s _ _ _ (T243.setTop (mkF m 159 #[.val (.long p1), .second, .val (.long p2), .second, .val (.long p3), .second, .val (.long p4), .second, .val (.int p5), .val (.long p1), .second, .val (.long p2), .second, .val (.int ((XT.ushr p5 (2 : Int32)) &&& (3 : Int32))), .val (.ref b238), .val (.ref b238), .val (.int (1 : Int32)), .unset, .unset] [(.ref b238), (.ref b238)]))
            obtain ⟨cq281, kq281, q281a, q281b, q281c⟩ := isOf hZ rfl q244
            obtain ⟨_, _, ⟨T281, L281, k281, n281⟩, -, X281, ⟨Lc281, hQ281, l281, y281, z281⟩, st281⟩ := X243.virtualBack hx (y := (⟨"com/example/epoch/epoch/protocol/record/AbortedTransaction", "equals", "(Ljava/lang/Object;)Z"⟩ : MethodName)) (z := (⟨"com/example/epoch/epoch/protocol/record/AbortedTransaction", "equals", "(Ljava/lang/Object;)Z"⟩ : MethodName)) hown (mvT hZ (hw _ (List.mem_of_getElem? (i := 13) rfl))) (mvT hZ (hw _ (List.mem_of_getElem? (i := 14) rfl))) (notFace_of_selects (args := #[]) (mvT hZ (hw _ (List.mem_of_getElem? (i := 16) rfl)))) (mvT hZ (hw _ (List.mem_of_getElem? (i := 16) rfl))) (mvT hZ (hw _ (List.mem_of_getElem? (i := 15) rfl))) (by decide) (backOf (W := 0) (own_rm_eqA l Z a0 hw [] b238 b238 p1 p2 p1 p2 T243.heap n0 Zs248 q244 q245 q246 q245 q246) hZ (hw _ (List.mem_of_getElem? (i := 17) rfl)) (hw _ (List.mem_of_getElem? (i := 2) rfl)) (by decide) (by decide)) q281a q281c (g := (mkF m 159 #[.val (.long p1), .second, .val (.long p2), .second, .val (.long p3), .second, .val (.long p4), .second, .val (.int p5), .val (.long p1), .second, .val (.long p2), .second, .val (.int ((XT.ushr p5 (2 : Int32)) &&& (3 : Int32))), .val (.ref b238), .val (.ref b238), .val (.int (1 : Int32)), .unset, .unset] [(.ref b238), (.ref b238)])) rfl (by rw [hml]; rfl) (Steps.refl _) (argsL := [(.ref b238)]) (rest := []) (lenOf own_pd3 rfl) rfl (by show 2 * 0 + _ ≤ _; exact Nat.le_of_eq rfl) (hb hby at_159) (fun _ _ => ⟨rfl, rfl, (by decide : 1 + 0 ≤ _), (by decide : 2 + 0 ≤ _)⟩)
            dsimp only [Pt.U, Pt.locs, Pt.cells, Pt.slots] at X281 l281 y281 z281 st281 hQ281
            subst l281 y281 z281
            obtain ⟨N281q, rfl, eh281⟩ := hQ281
            have N282 := Fr.app N247 N281q
            refine own_tr st281 ?_
            show own_Go p e below s _ _ _ (T281.setTop (mkF m 162 #[.val (.long p1), .second, .val (.long p2), .second, .val (.long p3), .second, .val (.long p4), .second, .val (.int p5), .val (.long p1), .second, .val (.long p2), .second, .val (.int ((XT.ushr p5 (2 : Int32)) &&& (3 : Int32))), .val (.ref b238), .val (.ref b238), .val (.int (1 : Int32)), .unset, .unset] [(.int (if p1 = p1 then (if p2 = p2 then (1 : Int32) else 0) else 0))]))
            refine own_st (fun _ k => XS.iload X281.here hx rfl (hb hby at_162) rfl k) ?_
            show own_Go p e below s _ _ _ (T281.setTop (mkF m 164 #[.val (.long p1), .second, .val (.long p2), .second, .val (.long p3), .second, .val (.long p4), .second, .val (.int p5), .val (.long p1), .second, .val (.long p2), .second, .val (.int ((XT.ushr p5 (2 : Int32)) &&& (3 : Int32))), .val (.ref b238), .val (.ref b238), .val (.int (1 : Int32)), .unset, .unset] [(.int (1 : Int32)), (.int (if p1 = p1 then (if p2 = p2 then (1 : Int32) else 0) else 0))]))
            refine own_st (fun _ k => XS.icmpNo X281.here hx rfl (hb hby at_164) rfl (XT.ii_ne_f (by simp [])) k) ?_
            show own_Go p e below s _ _ _ (T281.setTop (mkF m 167 #[.val (.long p1), .second, .val (.long p2), .second, .val (.long p3), .second, .val (.long p4), .second, .val (.int p5), .val (.long p1), .second, .val (.long p2), .second, .val (.int ((XT.ushr p5 (2 : Int32)) &&& (3 : Int32))), .val (.ref b238), .val (.ref b238), .val (.int (1 : Int32)), .unset, .unset] []))
            refine own_st (fun _ k => XT.iconstV X281.here hx rfl (1 : Int32) (hb hby at_167) (by decide) k) ?_
            show own_Go p e below s _ _ _ (T281.setTop (mkF m 168 #[.val (.long p1), .second, .val (.long p2), .second, .val (.long p3), .second, .val (.long p4), .second, .val (.int p5), .val (.long p1), .second, .val (.long p2), .second, .val (.int ((XT.ushr p5 (2 : Int32)) &&& (3 : Int32))), .val (.ref b238), .val (.ref b238), .val (.int (1 : Int32)), .unset, .unset] [(.int (1 : Int32))]))
            refine own_st (fun _ k => XS.goto X281.here hx rfl (pc0 := 168) (pc' := 172) rfl (hb hby at_168) (by decide) (by decide) k) ?_
            show own_Go p e below s _ _ _ (T281.setTop (mkF m 172 #[.val (.long p1), .second, .val (.long p2), .second, .val (.long p3), .second, .val (.long p4), .second, .val (.int p5), .val (.long p1), .second, .val (.long p2), .second, .val (.int ((XT.ushr p5 (2 : Int32)) &&& (3 : Int32))), .val (.ref b238), .val (.ref b238), .val (.int (1 : Int32)), .unset, .unset] [(.int (1 : Int32))]))
            refine own_retN X281 hx hlk Bd.returns (t := .boolean) (z' := (1 : Int32)) (by simp) (by decide) (hb hby at_172) (by decide) (by decide) ?_
            rw [eh281]
            exact ⟨N282, rfl⟩
set_option maxRecDepth 65536 in
set_option maxHeartbeats 40000000 in
theorem comes_1 {Post : Tables → Env → Array Value → State → Outcome → State → Prop} (hpost : ∀ tb e args s v u, (limb_1_1.after args s (.returned v) u = true ∧ limb_1_2.after args s (.returned v) u = true ∧ True) → FrameEnd s (.returned v) u (Jvm.fieldLocs frame_1_writes args s ++ Jvm.arrayLocs frame_1_arrays args s ++ Jvm.staticLocs frame_1_statics s) 16 128 → Post tb e args s (.returned v) u) :
    ArmFor flags0 classFile x code maxLocals ret World_1 tables_1 room_1 Calls_1 rest_1 Pre_1 Post := by
  intro l hfl _ _ p e ha hc hk s m args below hf hA hF happ hP
  obtain ⟨hcalls, hrest, hpre⟩ := hP
  obtain ⟨-, -, -, hnamed, -, -, -, hat⟩ := (Spec.applies_iff hf).mp happ
  obtain ⟨hg, hn⟩ := and_e (Cond.before_iff.mp (show (Jvm.Cond.and given_1 narrow_1).before args s = true from hpre))
  obtain ⟨gg0, hg0⟩ := and_e hg
  obtain ⟨gg1, hg1⟩ := and_e hg0
  obtain ⟨gg2, hg2⟩ := and_e hg1
  obtain ⟨gg3, hg3⟩ := and_e hg2
  obtain ⟨gg4, hg4⟩ := and_e hg3
  obtain ⟨w0, w1, w2, w3, w4, rfl⟩ : ∃ w0 w1 w2 w3 w4 : Value, args = #[w0, w1, w2, w3, w4] := by
    have hs : args.size = 5 := by simpa [Cond.value, given_1] using gg0
    obtain ⟨L⟩ := args
    match L, hs with
    | [w0, w1, w2, w3, w4], _ => exact ⟨w0, w1, w2, w3, w4, rfl⟩
  have hw := fun d (hd : d ∈ tables_1) => atoms_spec (ws := Jvm.Cond.code x code maxLocals ret :: tables_1) hat d (List.mem_cons_of_mem _ hd)
  have hfit : Fit s := fun {y c} hc i hi => by
    obtain ⟨ha, rfl⟩ := Array.getElem?_eq_some_iff.mp hc
    have q := List.all_eq_true.mp ((Array.all_eq_true_iff_forall_mem.mp hF) _ (Array.getElem_mem ha)) i (List.mem_range.mpr hi)
    simpa [Array.getElem?_eq_getElem hi] using q
  obtain ⟨i0, ei0⟩ := isL_v gg1
  obtain rfl : w0 = (.long i0) := Option.some.inj ei0
  obtain ⟨i1, ei1⟩ := isL_v gg2
  obtain rfl : w1 = (.long i1) := Option.some.inj ei1
  obtain ⟨i2, ei2⟩ := isL_v gg3
  obtain rfl : w2 = (.long i2) := Option.some.inj ei2
  obtain ⟨i3, ei3⟩ := isL_v gg4
  obtain rfl : w3 = (.long i3) := Option.some.inj ei3
  obtain ⟨i4, ei4⟩ := is_v hg4
  obtain rfl : w4 = (.int i4) := Option.some.inj ei4
  have hsets := (atoms_of jdkStatics_1 (rest_1_c_eq ▸ (show rest_1_c.before _ s = true from hrest))).1
  obtain ⟨a_cacheJ, e_cacheJ⟩ := arr_v (Cond.before_iff.mp (hsets _ (List.mem_of_getElem? (i := 2) rfl)))
  have S_cacheJ : Sta s s.heap "java/lang/Long$LongCache" "cache" "[Ljava/lang/Long;" (.ref a_cacheJ) := Sta.start e_cacheJ (Or.inl (hsets _ (List.mem_of_getElem? (i := 1) rfl)))
  have BxJ : own_BoxJ s a_cacheJ := own_boxJ e_cacheJ (hsets _ (List.mem_of_getElem? (i := 2) rfl)) (hsets _ (List.mem_of_getElem? (i := 4) rfl)) (hsets _ (List.mem_of_getElem? (i := 5) rfl))
  obtain ⟨n, o, h1, h2, h3, _, L, rfl, ⟨N, rfl⟩, hq⟩ := own_law l s _ hw tables_1 i0 i1 i2 i3 i4 a_cacheJ s.heap s.heap.size (Nat.le_refl _) (Old.start s) S_cacheJ BxJ p e ha hc hk s m _ below hf ((Spec.applies_iff_loose hf).mp happ).1 ⟨rfl, State.Warmed39.refl s, rfl⟩ trivial
  refine ⟨n, _, h1, h2, h3, hpost _ _ _ _ _ _ ⟨Cond.after_iff.mpr rfl, Cond.after_iff.mpr (eq_i res_at (Term.int_eval (1)) rfl), trivial⟩ ⟨hq.1, hq.2.1, (hq.2.2.sift fun y hy => Or.inr (N y hy)).mono (by decide) (by decide)⟩⟩
theorem main_1_1 : Claimed_1_1 := comes_1 fun _ _ _ _ _ _ h hF => ⟨h.1, hF⟩
theorem main_1_2 : Claimed_1_2 := comes_1 fun _ _ _ _ _ _ h hF => ⟨h.2.1, hF⟩
end Jvm.Pilot.@@N@@
namespace Jvm.Pilot.@@N@@
open Jvm Jvm.ClassFile Sem Op Lib Jvm.Free Jvm.Stand Jvm.Pilot.@@N@@.Jvm.D
/-! MADE BY PROGRAM (witnessworld.py) out of the Statement's table words and the real class files: 16 classes; the members and pool entries that the words name. The judged class is class 1, her method 1. -/
namespace start1
open Jvm.ClassFile
def u (s : String) : CpInfo := .utf8 (stringToUtf16 s)
/-- a pool by its gaps: so many unusable entries, then the entry; so many at the end -/
def gap : Nat → List CpInfo → List CpInfo
  | 0, r => r
  | n + 1, r => .unusable :: gap n r
def poolList (es : List (Nat × CpInfo)) (last : Nat) : List CpInfo := es.foldr (fun e r => gap e.1 (e.2 :: r)) (gap last [])
def pool (es : List (Nat × CpInfo)) (last : Nat) : Array CpInfo := ⟨poolList es last⟩
def fileOf (pool : Array CpInfo) (this : Nat) (attrs : Array Attribute := #[]) (ms : Array MethodInfo := #[]) (fl : Nat := 33) (sup : Nat := 0) (ifs : Array Nat := #[]) (fds : Array FieldInfo := #[]) : ClassFile where
  minorVersion := 0
  majorVersion := 65
  constantPool := pool
  accessFlags := fl
  thisClass := this
  superClass := sup
  interfaces := ifs
  fields := fds
  methods := ms
  attributes := attrs
def plain (name : String) (sup : Option ClassId) : Class where
  name := name
  kind := .ordinary
  loader := none
  accessFlags := 33
  super := sup
  interfaces := #[]
  cf := none
  fields := #[]
  methods := #[]
  instanceTypes := #[]
  staticTypes := #[]
  resolved := #[]
  callSites := []
  init := .initialized
  statics := none
  mirror := none

def pool0 : Array CpInfo := pool [(5, u "<init>"), (0, u "()V"), (1, .class_ 10), (1, u "java/lang/Object")] 113

def k0c0 : Code := { maxStack := 0, maxLocals := 1, code := object_method_1_code, exceptionTable := #[], attributes := #[] }
def k0m0 : Method := { name := "<init>", desc := "()V", sig := { parameters := [], returnType := none }, accessFlags := 1, code := some k0c0 }
/-- java/lang/Object -/
def k0 : Class := { plain "java/lang/Object" none with
  accessFlags := 33
  interfaces := #[]
  cf := some (fileOf pool0 8 #[] #[{ accessFlags := 1, nameIndex := 5, descriptorIndex := 6, attributes := #[] }] 33 0 #[] #[])
  fields := #[]
  methods := #[k0m0]
  instanceTypes := #[]
  staticTypes := #[]
  resolved := Array.replicate 124 none
  statics := none }

def pool1 : Array CpInfo := pool [(2, .class_ 4), (1, u "java/lang/Object"), (0, u "<init>"), (0, u "()V"), (0, .class_ 8), (0, u "com/example/epoch/epoch/protocol/record/AbortedTransaction"), (0, .methodref 7 10), (0, .nameAndType 5 11), (0, u "(JJ)V"), (0, .methodref 13 14), (0, .class_ 15), (0, .nameAndType 16 17), (0, u "java/lang/Long"), (0, u "valueOf"), (0, u "(J)Ljava/lang/Long;"), (0, .methodref 7 19), (0, .nameAndType 20 21), (0, u "equals"), (0, u "(Ljava/lang/Object;)Z"), (0, .class_ 23), (0, u "com/example/epoch/epoch/protocol/record/AbortedTransactionEqualsPinLaw"), (2, u "law"), (0, u "(JJJJI)Z")] 3

def k1m0 : Method := { name := "<init>", desc := "()V", sig := { parameters := [], returnType := none }, accessFlags := 1, code := none }
def k1c1 : Code := { maxStack := 6, maxLocals := 19, code := code, exceptionTable := #[], attributes := #[] }
def k1m1 : Method := { name := "law", desc := "(JJJJI)Z", sig := { parameters := [.long, .long, .long, .long, .int], returnType := some .boolean }, accessFlags := 9, code := some k1c1 }
/-- com/example/epoch/epoch/protocol/record/AbortedTransactionEqualsPinLaw -/
def k1 : Class := { plain "com/example/epoch/epoch/protocol/record/AbortedTransactionEqualsPinLaw" (some 0) with
  accessFlags := 49
  interfaces := #[]
  cf := some (fileOf pool1 22 #[] #[{ accessFlags := 1, nameIndex := 5, descriptorIndex := 6, attributes := #[] }, { accessFlags := 9, nameIndex := 26, descriptorIndex := 27, attributes := #[] }] 49 2 #[] #[])
  fields := #[]
  methods := #[k1m0, k1m1]
  instanceTypes := #[]
  staticTypes := #[]
  resolved := Array.replicate 31 none
  statics := none }

def pool2 : Array CpInfo := pool [(1, .methodref 2 3), (0, .class_ 4), (0, .nameAndType 5 6), (0, u "java/lang/Object"), (0, u "<init>"), (0, u "()V"), (0, .fieldref 8 9), (0, .class_ 10), (0, .nameAndType 11 12), (0, u "com/example/epoch/epoch/protocol/record/AbortedTransaction"), (0, u "producerId"), (0, u "J"), (0, .fieldref 8 14), (0, .nameAndType 15 12), (0, u "firstOffset"), (10, u "(JJ)V"), (3, u "equals"), (0, u "(Ljava/lang/Object;)Z")] 21

def k2c0 : Code := { maxStack := 3, maxLocals := 5, code := prog_96_method_1_code, exceptionTable := #[], attributes := #[] }
def k2m0 : Method := { name := "<init>", desc := "(JJ)V", sig := { parameters := [.long, .long], returnType := none }, accessFlags := 1, code := some k2c0 }
def k2c1 : Code := { maxStack := 4, maxLocals := 3, code := prog_96_method_4_code, exceptionTable := #[], attributes := #[] }
def k2m1 : Method := { name := "equals", desc := "(Ljava/lang/Object;)Z", sig := { parameters := [(.object "java/lang/Object")], returnType := some .boolean }, accessFlags := 1, code := some k2c1 }
/-- com/example/epoch/epoch/protocol/record/AbortedTransaction -/
def k2 : Class := { plain "com/example/epoch/epoch/protocol/record/AbortedTransaction" (some 0) with
  accessFlags := 49
  interfaces := #[]
  cf := some (fileOf pool2 8 #[] #[{ accessFlags := 1, nameIndex := 5, descriptorIndex := 26, attributes := #[] }, { accessFlags := 1, nameIndex := 30, descriptorIndex := 31, attributes := #[] }] 49 2 #[] #[{ accessFlags := 18, nameIndex := 11, descriptorIndex := 12, attributes := #[] }, { accessFlags := 18, nameIndex := 15, descriptorIndex := 12, attributes := #[] }])
  fields := #[{ name := "producerId", type := .long, accessFlags := 18, slot := 0, constantValue := 0 }, { name := "firstOffset", type := .long, accessFlags := 18, slot := 1, constantValue := 0 }]
  methods := #[k2m0, k2m1]
  instanceTypes := #[.long, .long]
  staticTypes := #[]
  resolved := Array.replicate 53 none
  statics := none }

def pool3 : Array CpInfo := pool [(1, .class_ 2), (0, u "java/io/Serializable"), (0, .class_ 4), (0, u "java/lang/Object")] 2

/-- java/io/Serializable -/
def k3 : Class := { plain "java/io/Serializable" (some 0) with
  accessFlags := 1537
  interfaces := #[]
  cf := some (fileOf pool3 1 #[] #[] 1537 3 #[] #[])
  fields := #[]
  methods := #[]
  instanceTypes := #[]
  staticTypes := #[]
  resolved := Array.replicate 7 none
  statics := none }

def pool4 : Array CpInfo := pool [(1, .methodref 2 3), (0, .class_ 4), (0, .nameAndType 5 6), (0, u "java/lang/Object"), (0, u "<init>"), (0, u "()V"), (1, .class_ 10), (1, u "java/lang/Number"), (2, .class_ 14), (0, u "java/io/Serializable"), (0, u "serialVersionUID"), (0, u "J")] 20

def k4c0 : Code := { maxStack := 1, maxLocals := 1, code := jdk_18_method_1_code, exceptionTable := #[], attributes := #[] }
def k4m0 : Method := { name := "<init>", desc := "()V", sig := { parameters := [], returnType := none }, accessFlags := 1, code := some k4c0 }
/-- java/lang/Number -/
def k4 : Class := { plain "java/lang/Number" (some 0) with
  accessFlags := 1057
  interfaces := #[3]
  cf := some (fileOf pool4 8 #[] #[{ accessFlags := 1, nameIndex := 5, descriptorIndex := 6, attributes := #[] }] 1057 2 #[13] #[{ accessFlags := 26, nameIndex := 15, descriptorIndex := 16, attributes := #[] }])
  fields := #[{ name := "serialVersionUID", type := .long, accessFlags := 26, slot := 0, constantValue := 0 }]
  methods := #[k4m0]
  instanceTypes := #[]
  staticTypes := #[.long]
  resolved := Array.replicate 37 none
  statics := none }

def pool5 : Array CpInfo := pool [(1, .class_ 2), (0, u "java/lang/Comparable"), (0, .class_ 4), (0, u "java/lang/Object")] 7

/-- java/lang/Comparable -/
def k5 : Class := { plain "java/lang/Comparable" (some 0) with
  accessFlags := 1537
  interfaces := #[]
  cf := some (fileOf pool5 1 #[] #[] 1537 3 #[] #[])
  fields := #[]
  methods := #[]
  instanceTypes := #[]
  staticTypes := #[]
  resolved := Array.replicate 12 none
  statics := none }

def pool6 : Array CpInfo := pool [(1, .class_ 2), (0, u "java/lang/constant/Constable"), (0, .class_ 4), (0, u "java/lang/Object")] 6

/-- java/lang/constant/Constable -/
def k6 : Class := { plain "java/lang/constant/Constable" (some 0) with
  accessFlags := 1537
  interfaces := #[]
  cf := some (fileOf pool6 1 #[] #[] 1537 3 #[] #[])
  fields := #[]
  methods := #[]
  instanceTypes := #[]
  staticTypes := #[]
  resolved := Array.replicate 11 none
  statics := none }

def pool7 : Array CpInfo := pool [(1, .class_ 2), (0, u "java/lang/constant/ConstantDesc"), (0, .class_ 4), (0, u "java/lang/Object")] 32

/-- java/lang/constant/ConstantDesc -/
def k7 : Class := { plain "java/lang/constant/ConstantDesc" (some 0) with
  accessFlags := 1537
  interfaces := #[]
  cf := some (fileOf pool7 1 #[] #[] 1537 3 #[] #[])
  fields := #[]
  methods := #[]
  instanceTypes := #[]
  staticTypes := #[]
  resolved := Array.replicate 37 none
  statics := none }

def pool8 : Array CpInfo := pool [(1, .class_ 2), (0, u "java/lang/Long"), (55, .nameAndType 59 60), (0, u "<init>"), (0, u "()V"), (24, u "valueOf"), (143, u "(J)Ljava/lang/Long;"), (0, .long 18446744073709551488), (1, .long 127), (1, .fieldref 235 236), (0, .class_ 237), (0, .nameAndType 238 239), (0, u "java/lang/Long$LongCache"), (0, u "cache"), (0, u "[Ljava/lang/Long;"), (0, .methodref 1 241), (0, .nameAndType 59 242), (0, u "(J)V"), (27, .methodref 271 58), (0, .class_ 272), (0, u "java/lang/Number"), (0, .fieldref 1 274), (0, .nameAndType 275 276), (0, u "value"), (0, u "J"), (84, u "TYPE"), (0, u "Ljava/lang/Class;"), (0, .class_ 364), (0, u "java/lang/Comparable"), (0, .class_ 366), (0, u "java/lang/constant/Constable"), (0, .class_ 368), (0, u "java/lang/constant/ConstantDesc"), (0, u "MIN_VALUE"), (1, u "MAX_VALUE"), (4, u "SIZE"), (0, u "I"), (1, u "BYTES"), (1, u "serialVersionUID")] 142

def k8c0 : Code := { maxStack := 4, maxLocals := 3, code := jdk_35_method_24_code, exceptionTable := #[], attributes := #[] }
def k8m0 : Method := { name := "valueOf", desc := "(J)Ljava/lang/Long;", sig := { parameters := [.long], returnType := some (.object "java/lang/Long") }, accessFlags := 9, code := some k8c0 }
def k8c1 : Code := { maxStack := 3, maxLocals := 3, code := jdk_35_method_26_code, exceptionTable := #[], attributes := #[] }
def k8m1 : Method := { name := "<init>", desc := "(J)V", sig := { parameters := [.long], returnType := none }, accessFlags := 1, code := some k8c1 }
/-- java/lang/Long -/
def k8 : Class := { plain "java/lang/Long" (some 4) with
  accessFlags := 49
  interfaces := #[5, 6, 7]
  cf := some (fileOf pool8 1 #[.nestMembers #[235]] #[{ accessFlags := 9, nameIndex := 85, descriptorIndex := 229, attributes := #[] }, { accessFlags := 1, nameIndex := 59, descriptorIndex := 242, attributes := #[] }] 49 271 #[363, 365, 367] #[{ accessFlags := 25, nameIndex := 369, descriptorIndex := 276, attributes := #[] }, { accessFlags := 25, nameIndex := 371, descriptorIndex := 276, attributes := #[] }, { accessFlags := 25, nameIndex := 361, descriptorIndex := 362, attributes := #[] }, { accessFlags := 18, nameIndex := 275, descriptorIndex := 276, attributes := #[] }, { accessFlags := 25, nameIndex := 376, descriptorIndex := 377, attributes := #[] }, { accessFlags := 25, nameIndex := 379, descriptorIndex := 377, attributes := #[] }, { accessFlags := 26, nameIndex := 381, descriptorIndex := 276, attributes := #[] }])
  fields := #[{ name := "MIN_VALUE", type := .long, accessFlags := 25, slot := 0, constantValue := 0 }, { name := "MAX_VALUE", type := .long, accessFlags := 25, slot := 1, constantValue := 0 }, { name := "TYPE", type := (.object "java/lang/Class"), accessFlags := 25, slot := 2, constantValue := 0 }, { name := "value", type := .long, accessFlags := 18, slot := 0, constantValue := 0 }, { name := "SIZE", type := .int, accessFlags := 25, slot := 3, constantValue := 0 }, { name := "BYTES", type := .int, accessFlags := 25, slot := 4, constantValue := 0 }, { name := "serialVersionUID", type := .long, accessFlags := 26, slot := 5, constantValue := 0 }]
  methods := #[k8m0, k8m1]
  instanceTypes := #[.long]
  staticTypes := #[.long, .long, (.object "java/lang/Class"), .int, .int, .long]
  resolved := Array.replicate 524 none
  statics := none }

def pool9 : Array CpInfo := pool [(2, .class_ 4), (1, u "java/lang/Object"), (0, u "<init>"), (0, u "()V"), (0, .class_ 8), (0, u "java/lang/Long"), (7, .class_ 18), (1, u "java/lang/Long$LongCache"), (0, u "$assertionsDisabled"), (0, u "Z"), (8, u "archivedCache"), (0, u "[Ljava/lang/Long;"), (7, u "cache")] 24

def k9m0 : Method := { name := "<init>", desc := "()V", sig := { parameters := [], returnType := none }, accessFlags := 2, code := none }
/-- java/lang/Long$LongCache -/
def k9 : Class := { plain "java/lang/Long$LongCache" (some 0) with
  accessFlags := 48
  interfaces := #[]
  cf := some (fileOf pool9 16 #[.nestHost 7] #[{ accessFlags := 2, nameIndex := 5, descriptorIndex := 6, attributes := #[] }] 48 2 #[] #[{ accessFlags := 24, nameIndex := 38, descriptorIndex := 30, attributes := #[] }, { accessFlags := 8, nameIndex := 29, descriptorIndex := 30, attributes := #[] }, { accessFlags := 4120, nameIndex := 19, descriptorIndex := 20, attributes := #[] }])
  fields := #[{ name := "cache", type := (.array (.object "java/lang/Long")), accessFlags := 24, slot := 0, constantValue := 0 }, { name := "archivedCache", type := (.array (.object "java/lang/Long")), accessFlags := 8, slot := 1, constantValue := 0 }, { name := "$assertionsDisabled", type := .boolean, accessFlags := 4120, slot := 2, constantValue := 0 }]
  methods := #[k9m0]
  instanceTypes := #[]
  staticTypes := #[(.array (.object "java/lang/Long")), (.array (.object "java/lang/Long")), .boolean]
  resolved := Array.replicate 63 none
  statics := some 0 }

def pool10 : Array CpInfo := pool [(1, u "java/lang/Cloneable"), (0, .class_ 1), (0, u "java/lang/Object"), (0, .class_ 3)] 3

/-- java/lang/Cloneable -/
def k10 : Class := { plain "java/lang/Cloneable" (some 0) with
  accessFlags := 1537
  interfaces := #[]
  cf := some (fileOf pool10 2 #[] #[] 1537 4 #[] #[])
  fields := #[]
  methods := #[]
  instanceTypes := #[]
  staticTypes := #[]
  resolved := Array.replicate 8 none
  statics := none }

/-- the primitive byte -/
def k11 : Class := { plain "byte" none with kind := .primitive 'B', accessFlags := 0x411 }
/-- [B -/
def k12 : Class := { plain "[B" (some 0) with kind := .array 11 .byte, interfaces := #[10, 3], accessFlags := 1041 }

/-- the primitive int -/
def k13 : Class := { plain "int" none with kind := .primitive 'I', accessFlags := 0x411 }
/-- [I -/
def k14 : Class := { plain "[I" (some 0) with kind := .array 13 .int, interfaces := #[10, 3], accessFlags := 1041 }

/-- [Ljava/lang/Long; -/
def k15 : Class := { plain "[Ljava/lang/Long;" (some 0) with kind := .array 8 (.object "java/lang/Long"), interfaces := #[10, 3], accessFlags := 1041 }

def heap : Heap := #[{ cls := 9, slots := #[.ref 1, .null, .int 0], vm := .statics 9 },
  { cls := 15, slots := #[.ref 2, .ref 3, .ref 4, .ref 5, .ref 6, .ref 7, .ref 8, .ref 9, .ref 10, .ref 11, .ref 12, .ref 13, .ref 14, .ref 15, .ref 16, .ref 17, .ref 18, .ref 19, .ref 20, .ref 21, .ref 22, .ref 23, .ref 24, .ref 25, .ref 26, .ref 27, .ref 28, .ref 29, .ref 30, .ref 31, .ref 32, .ref 33, .ref 34, .ref 35, .ref 36, .ref 37, .ref 38, .ref 39, .ref 40, .ref 41, .ref 42, .ref 43, .ref 44, .ref 45, .ref 46, .ref 47, .ref 48, .ref 49, .ref 50, .ref 51, .ref 52, .ref 53, .ref 54, .ref 55, .ref 56, .ref 57, .ref 58, .ref 59, .ref 60, .ref 61, .ref 62, .ref 63, .ref 64, .ref 65, .ref 66, .ref 67, .ref 68, .ref 69, .ref 70, .ref 71, .ref 72, .ref 73, .ref 74, .ref 75, .ref 76, .ref 77, .ref 78, .ref 79, .ref 80, .ref 81, .ref 82, .ref 83, .ref 84, .ref 85, .ref 86, .ref 87, .ref 88, .ref 89, .ref 90, .ref 91, .ref 92, .ref 93, .ref 94, .ref 95, .ref 96, .ref 97, .ref 98, .ref 99, .ref 100, .ref 101, .ref 102, .ref 103, .ref 104, .ref 105, .ref 106, .ref 107, .ref 108, .ref 109, .ref 110, .ref 111, .ref 112, .ref 113, .ref 114, .ref 115, .ref 116, .ref 117, .ref 118, .ref 119, .ref 120, .ref 121, .ref 122, .ref 123, .ref 124, .ref 125, .ref 126, .ref 127, .ref 128, .ref 129, .ref 130, .ref 131, .ref 132, .ref 133, .ref 134, .ref 135, .ref 136, .ref 137, .ref 138, .ref 139, .ref 140, .ref 141, .ref 142, .ref 143, .ref 144, .ref 145, .ref 146, .ref 147, .ref 148, .ref 149, .ref 150, .ref 151, .ref 152, .ref 153, .ref 154, .ref 155, .ref 156, .ref 157, .ref 158, .ref 159, .ref 160, .ref 161, .ref 162, .ref 163, .ref 164, .ref 165, .ref 166, .ref 167, .ref 168, .ref 169, .ref 170, .ref 171, .ref 172, .ref 173, .ref 174, .ref 175, .ref 176, .ref 177, .ref 178, .ref 179, .ref 180, .ref 181, .ref 182, .ref 183, .ref 184, .ref 185, .ref 186, .ref 187, .ref 188, .ref 189, .ref 190, .ref 191, .ref 192, .ref 193, .ref 194, .ref 195, .ref 196, .ref 197, .ref 198, .ref 199, .ref 200, .ref 201, .ref 202, .ref 203, .ref 204, .ref 205, .ref 206, .ref 207, .ref 208, .ref 209, .ref 210, .ref 211, .ref 212, .ref 213, .ref 214, .ref 215, .ref 216, .ref 217, .ref 218, .ref 219, .ref 220, .ref 221, .ref 222, .ref 223, .ref 224, .ref 225, .ref 226, .ref 227, .ref 228, .ref 229, .ref 230, .ref 231, .ref 232, .ref 233, .ref 234, .ref 235, .ref 236, .ref 237, .ref 238, .ref 239, .ref 240, .ref 241, .ref 242, .ref 243, .ref 244, .ref 245, .ref 246, .ref 247, .ref 248, .ref 249, .ref 250, .ref 251, .ref 252, .ref 253, .ref 254, .ref 255, .ref 256, .ref 257], vm := .none },
  { cls := 8, slots := #[.long (-128)], vm := .none },
  { cls := 8, slots := #[.long (-127)], vm := .none },
  { cls := 8, slots := #[.long (-126)], vm := .none },
  { cls := 8, slots := #[.long (-125)], vm := .none },
  { cls := 8, slots := #[.long (-124)], vm := .none },
  { cls := 8, slots := #[.long (-123)], vm := .none },
  { cls := 8, slots := #[.long (-122)], vm := .none },
  { cls := 8, slots := #[.long (-121)], vm := .none },
  { cls := 8, slots := #[.long (-120)], vm := .none },
  { cls := 8, slots := #[.long (-119)], vm := .none },
  { cls := 8, slots := #[.long (-118)], vm := .none },
  { cls := 8, slots := #[.long (-117)], vm := .none },
  { cls := 8, slots := #[.long (-116)], vm := .none },
  { cls := 8, slots := #[.long (-115)], vm := .none },
  { cls := 8, slots := #[.long (-114)], vm := .none },
  { cls := 8, slots := #[.long (-113)], vm := .none },
  { cls := 8, slots := #[.long (-112)], vm := .none },
  { cls := 8, slots := #[.long (-111)], vm := .none },
  { cls := 8, slots := #[.long (-110)], vm := .none },
  { cls := 8, slots := #[.long (-109)], vm := .none },
  { cls := 8, slots := #[.long (-108)], vm := .none },
  { cls := 8, slots := #[.long (-107)], vm := .none },
  { cls := 8, slots := #[.long (-106)], vm := .none },
  { cls := 8, slots := #[.long (-105)], vm := .none },
  { cls := 8, slots := #[.long (-104)], vm := .none },
  { cls := 8, slots := #[.long (-103)], vm := .none },
  { cls := 8, slots := #[.long (-102)], vm := .none },
  { cls := 8, slots := #[.long (-101)], vm := .none },
  { cls := 8, slots := #[.long (-100)], vm := .none },
  { cls := 8, slots := #[.long (-99)], vm := .none },
  { cls := 8, slots := #[.long (-98)], vm := .none },
  { cls := 8, slots := #[.long (-97)], vm := .none },
  { cls := 8, slots := #[.long (-96)], vm := .none },
  { cls := 8, slots := #[.long (-95)], vm := .none },
  { cls := 8, slots := #[.long (-94)], vm := .none },
  { cls := 8, slots := #[.long (-93)], vm := .none },
  { cls := 8, slots := #[.long (-92)], vm := .none },
  { cls := 8, slots := #[.long (-91)], vm := .none },
  { cls := 8, slots := #[.long (-90)], vm := .none },
  { cls := 8, slots := #[.long (-89)], vm := .none },
  { cls := 8, slots := #[.long (-88)], vm := .none },
  { cls := 8, slots := #[.long (-87)], vm := .none },
  { cls := 8, slots := #[.long (-86)], vm := .none },
  { cls := 8, slots := #[.long (-85)], vm := .none },
  { cls := 8, slots := #[.long (-84)], vm := .none },
  { cls := 8, slots := #[.long (-83)], vm := .none },
  { cls := 8, slots := #[.long (-82)], vm := .none },
  { cls := 8, slots := #[.long (-81)], vm := .none },
  { cls := 8, slots := #[.long (-80)], vm := .none },
  { cls := 8, slots := #[.long (-79)], vm := .none },
  { cls := 8, slots := #[.long (-78)], vm := .none },
  { cls := 8, slots := #[.long (-77)], vm := .none },
  { cls := 8, slots := #[.long (-76)], vm := .none },
  { cls := 8, slots := #[.long (-75)], vm := .none },
  { cls := 8, slots := #[.long (-74)], vm := .none },
  { cls := 8, slots := #[.long (-73)], vm := .none },
  { cls := 8, slots := #[.long (-72)], vm := .none },
  { cls := 8, slots := #[.long (-71)], vm := .none },
  { cls := 8, slots := #[.long (-70)], vm := .none },
  { cls := 8, slots := #[.long (-69)], vm := .none },
  { cls := 8, slots := #[.long (-68)], vm := .none },
  { cls := 8, slots := #[.long (-67)], vm := .none },
  { cls := 8, slots := #[.long (-66)], vm := .none },
  { cls := 8, slots := #[.long (-65)], vm := .none },
  { cls := 8, slots := #[.long (-64)], vm := .none },
  { cls := 8, slots := #[.long (-63)], vm := .none },
  { cls := 8, slots := #[.long (-62)], vm := .none },
  { cls := 8, slots := #[.long (-61)], vm := .none },
  { cls := 8, slots := #[.long (-60)], vm := .none },
  { cls := 8, slots := #[.long (-59)], vm := .none },
  { cls := 8, slots := #[.long (-58)], vm := .none },
  { cls := 8, slots := #[.long (-57)], vm := .none },
  { cls := 8, slots := #[.long (-56)], vm := .none },
  { cls := 8, slots := #[.long (-55)], vm := .none },
  { cls := 8, slots := #[.long (-54)], vm := .none },
  { cls := 8, slots := #[.long (-53)], vm := .none },
  { cls := 8, slots := #[.long (-52)], vm := .none },
  { cls := 8, slots := #[.long (-51)], vm := .none },
  { cls := 8, slots := #[.long (-50)], vm := .none },
  { cls := 8, slots := #[.long (-49)], vm := .none },
  { cls := 8, slots := #[.long (-48)], vm := .none },
  { cls := 8, slots := #[.long (-47)], vm := .none },
  { cls := 8, slots := #[.long (-46)], vm := .none },
  { cls := 8, slots := #[.long (-45)], vm := .none },
  { cls := 8, slots := #[.long (-44)], vm := .none },
  { cls := 8, slots := #[.long (-43)], vm := .none },
  { cls := 8, slots := #[.long (-42)], vm := .none },
  { cls := 8, slots := #[.long (-41)], vm := .none },
  { cls := 8, slots := #[.long (-40)], vm := .none },
  { cls := 8, slots := #[.long (-39)], vm := .none },
  { cls := 8, slots := #[.long (-38)], vm := .none },
  { cls := 8, slots := #[.long (-37)], vm := .none },
  { cls := 8, slots := #[.long (-36)], vm := .none },
  { cls := 8, slots := #[.long (-35)], vm := .none },
  { cls := 8, slots := #[.long (-34)], vm := .none },
  { cls := 8, slots := #[.long (-33)], vm := .none },
  { cls := 8, slots := #[.long (-32)], vm := .none },
  { cls := 8, slots := #[.long (-31)], vm := .none },
  { cls := 8, slots := #[.long (-30)], vm := .none },
  { cls := 8, slots := #[.long (-29)], vm := .none },
  { cls := 8, slots := #[.long (-28)], vm := .none },
  { cls := 8, slots := #[.long (-27)], vm := .none },
  { cls := 8, slots := #[.long (-26)], vm := .none },
  { cls := 8, slots := #[.long (-25)], vm := .none },
  { cls := 8, slots := #[.long (-24)], vm := .none },
  { cls := 8, slots := #[.long (-23)], vm := .none },
  { cls := 8, slots := #[.long (-22)], vm := .none },
  { cls := 8, slots := #[.long (-21)], vm := .none },
  { cls := 8, slots := #[.long (-20)], vm := .none },
  { cls := 8, slots := #[.long (-19)], vm := .none },
  { cls := 8, slots := #[.long (-18)], vm := .none },
  { cls := 8, slots := #[.long (-17)], vm := .none },
  { cls := 8, slots := #[.long (-16)], vm := .none },
  { cls := 8, slots := #[.long (-15)], vm := .none },
  { cls := 8, slots := #[.long (-14)], vm := .none },
  { cls := 8, slots := #[.long (-13)], vm := .none },
  { cls := 8, slots := #[.long (-12)], vm := .none },
  { cls := 8, slots := #[.long (-11)], vm := .none },
  { cls := 8, slots := #[.long (-10)], vm := .none },
  { cls := 8, slots := #[.long (-9)], vm := .none },
  { cls := 8, slots := #[.long (-8)], vm := .none },
  { cls := 8, slots := #[.long (-7)], vm := .none },
  { cls := 8, slots := #[.long (-6)], vm := .none },
  { cls := 8, slots := #[.long (-5)], vm := .none },
  { cls := 8, slots := #[.long (-4)], vm := .none },
  { cls := 8, slots := #[.long (-3)], vm := .none },
  { cls := 8, slots := #[.long (-2)], vm := .none },
  { cls := 8, slots := #[.long (-1)], vm := .none },
  { cls := 8, slots := #[.long 0], vm := .none },
  { cls := 8, slots := #[.long 1], vm := .none },
  { cls := 8, slots := #[.long 2], vm := .none },
  { cls := 8, slots := #[.long 3], vm := .none },
  { cls := 8, slots := #[.long 4], vm := .none },
  { cls := 8, slots := #[.long 5], vm := .none },
  { cls := 8, slots := #[.long 6], vm := .none },
  { cls := 8, slots := #[.long 7], vm := .none },
  { cls := 8, slots := #[.long 8], vm := .none },
  { cls := 8, slots := #[.long 9], vm := .none },
  { cls := 8, slots := #[.long 10], vm := .none },
  { cls := 8, slots := #[.long 11], vm := .none },
  { cls := 8, slots := #[.long 12], vm := .none },
  { cls := 8, slots := #[.long 13], vm := .none },
  { cls := 8, slots := #[.long 14], vm := .none },
  { cls := 8, slots := #[.long 15], vm := .none },
  { cls := 8, slots := #[.long 16], vm := .none },
  { cls := 8, slots := #[.long 17], vm := .none },
  { cls := 8, slots := #[.long 18], vm := .none },
  { cls := 8, slots := #[.long 19], vm := .none },
  { cls := 8, slots := #[.long 20], vm := .none },
  { cls := 8, slots := #[.long 21], vm := .none },
  { cls := 8, slots := #[.long 22], vm := .none },
  { cls := 8, slots := #[.long 23], vm := .none },
  { cls := 8, slots := #[.long 24], vm := .none },
  { cls := 8, slots := #[.long 25], vm := .none },
  { cls := 8, slots := #[.long 26], vm := .none },
  { cls := 8, slots := #[.long 27], vm := .none },
  { cls := 8, slots := #[.long 28], vm := .none },
  { cls := 8, slots := #[.long 29], vm := .none },
  { cls := 8, slots := #[.long 30], vm := .none },
  { cls := 8, slots := #[.long 31], vm := .none },
  { cls := 8, slots := #[.long 32], vm := .none },
  { cls := 8, slots := #[.long 33], vm := .none },
  { cls := 8, slots := #[.long 34], vm := .none },
  { cls := 8, slots := #[.long 35], vm := .none },
  { cls := 8, slots := #[.long 36], vm := .none },
  { cls := 8, slots := #[.long 37], vm := .none },
  { cls := 8, slots := #[.long 38], vm := .none },
  { cls := 8, slots := #[.long 39], vm := .none },
  { cls := 8, slots := #[.long 40], vm := .none },
  { cls := 8, slots := #[.long 41], vm := .none },
  { cls := 8, slots := #[.long 42], vm := .none },
  { cls := 8, slots := #[.long 43], vm := .none },
  { cls := 8, slots := #[.long 44], vm := .none },
  { cls := 8, slots := #[.long 45], vm := .none },
  { cls := 8, slots := #[.long 46], vm := .none },
  { cls := 8, slots := #[.long 47], vm := .none },
  { cls := 8, slots := #[.long 48], vm := .none },
  { cls := 8, slots := #[.long 49], vm := .none },
  { cls := 8, slots := #[.long 50], vm := .none },
  { cls := 8, slots := #[.long 51], vm := .none },
  { cls := 8, slots := #[.long 52], vm := .none },
  { cls := 8, slots := #[.long 53], vm := .none },
  { cls := 8, slots := #[.long 54], vm := .none },
  { cls := 8, slots := #[.long 55], vm := .none },
  { cls := 8, slots := #[.long 56], vm := .none },
  { cls := 8, slots := #[.long 57], vm := .none },
  { cls := 8, slots := #[.long 58], vm := .none },
  { cls := 8, slots := #[.long 59], vm := .none },
  { cls := 8, slots := #[.long 60], vm := .none },
  { cls := 8, slots := #[.long 61], vm := .none },
  { cls := 8, slots := #[.long 62], vm := .none },
  { cls := 8, slots := #[.long 63], vm := .none },
  { cls := 8, slots := #[.long 64], vm := .none },
  { cls := 8, slots := #[.long 65], vm := .none },
  { cls := 8, slots := #[.long 66], vm := .none },
  { cls := 8, slots := #[.long 67], vm := .none },
  { cls := 8, slots := #[.long 68], vm := .none },
  { cls := 8, slots := #[.long 69], vm := .none },
  { cls := 8, slots := #[.long 70], vm := .none },
  { cls := 8, slots := #[.long 71], vm := .none },
  { cls := 8, slots := #[.long 72], vm := .none },
  { cls := 8, slots := #[.long 73], vm := .none },
  { cls := 8, slots := #[.long 74], vm := .none },
  { cls := 8, slots := #[.long 75], vm := .none },
  { cls := 8, slots := #[.long 76], vm := .none },
  { cls := 8, slots := #[.long 77], vm := .none },
  { cls := 8, slots := #[.long 78], vm := .none },
  { cls := 8, slots := #[.long 79], vm := .none },
  { cls := 8, slots := #[.long 80], vm := .none },
  { cls := 8, slots := #[.long 81], vm := .none },
  { cls := 8, slots := #[.long 82], vm := .none },
  { cls := 8, slots := #[.long 83], vm := .none },
  { cls := 8, slots := #[.long 84], vm := .none },
  { cls := 8, slots := #[.long 85], vm := .none },
  { cls := 8, slots := #[.long 86], vm := .none },
  { cls := 8, slots := #[.long 87], vm := .none },
  { cls := 8, slots := #[.long 88], vm := .none },
  { cls := 8, slots := #[.long 89], vm := .none },
  { cls := 8, slots := #[.long 90], vm := .none },
  { cls := 8, slots := #[.long 91], vm := .none },
  { cls := 8, slots := #[.long 92], vm := .none },
  { cls := 8, slots := #[.long 93], vm := .none },
  { cls := 8, slots := #[.long 94], vm := .none },
  { cls := 8, slots := #[.long 95], vm := .none },
  { cls := 8, slots := #[.long 96], vm := .none },
  { cls := 8, slots := #[.long 97], vm := .none },
  { cls := 8, slots := #[.long 98], vm := .none },
  { cls := 8, slots := #[.long 99], vm := .none },
  { cls := 8, slots := #[.long 100], vm := .none },
  { cls := 8, slots := #[.long 101], vm := .none },
  { cls := 8, slots := #[.long 102], vm := .none },
  { cls := 8, slots := #[.long 103], vm := .none },
  { cls := 8, slots := #[.long 104], vm := .none },
  { cls := 8, slots := #[.long 105], vm := .none },
  { cls := 8, slots := #[.long 106], vm := .none },
  { cls := 8, slots := #[.long 107], vm := .none },
  { cls := 8, slots := #[.long 108], vm := .none },
  { cls := 8, slots := #[.long 109], vm := .none },
  { cls := 8, slots := #[.long 110], vm := .none },
  { cls := 8, slots := #[.long 111], vm := .none },
  { cls := 8, slots := #[.long 112], vm := .none },
  { cls := 8, slots := #[.long 113], vm := .none },
  { cls := 8, slots := #[.long 114], vm := .none },
  { cls := 8, slots := #[.long 115], vm := .none },
  { cls := 8, slots := #[.long 116], vm := .none },
  { cls := 8, slots := #[.long 117], vm := .none },
  { cls := 8, slots := #[.long 118], vm := .none },
  { cls := 8, slots := #[.long 119], vm := .none },
  { cls := 8, slots := #[.long 120], vm := .none },
  { cls := 8, slots := #[.long 121], vm := .none },
  { cls := 8, slots := #[.long 122], vm := .none },
  { cls := 8, slots := #[.long 123], vm := .none },
  { cls := 8, slots := #[.long 124], vm := .none },
  { cls := 8, slots := #[.long 125], vm := .none },
  { cls := 8, slots := #[.long 126], vm := .none },
  { cls := 8, slots := #[.long 127], vm := .none }]
def classes : Array Class := #[k0, k1, k2, k3, k4, k5, k6, k7, k8, k9, k10, k11, k12, k13, k14, k15]
def interned : List (Array UInt16 × Addr) := []
def slotsUsed : Nat := 515
def theMethod : MethodId := ⟨1, 1⟩
def args0 : Array Value := #[.long 5, .long 6, .long 7, .long 8, .int 8]
def aboutOver (below : List Frame) : State where
  vm := { classes := classes, interned := interned.toArray }
  heap := heap
  slotsUsed := slotsUsed
  threads := #[{ frames := .invoking theMethod args0 :: below }]
def below0 : List Frame := [.native { method := ⟨0, 0⟩, args := #[] }]
def about1 : State := aboutOver below0
def p0 : Program := .bare "" "" ""
def e0 : Env := launch0.env 0 0 0
theorem w_frames : about1.frames = Frame.invoking theMethod args0 :: below0 := rfl
set_option maxRecDepth 65536 in
theorem w_args : argsFit about1.vm theMethod args0 = true := by decide +kernel
set_option maxRecDepth 65536 in
theorem w_heap : heapFits about1 = true := by decide +kernel
set_option maxRecDepth 65536 in
theorem w_runnable : about1.curStatus? = some .runnable := by decide +kernel
set_option maxRecDepth 65536 in
theorem w_alone : about1.alone = true := by decide +kernel
set_option maxRecDepth 65536 in
theorem w_named : about1.methodNamed? x = some theMethod := by decide +kernel
set_option maxRecDepth 65536 in
theorem w_hears : about1.hears theMethod below0 = true := by decide +kernel
set_option maxRecDepth 65536 in
theorem w_ripe : about1.ripe theMethod args0 below0 = true := by decide +kernel
theorem w_running : about1.status = .running := rfl
set_option maxRecDepth 65536 in
theorem w_room : about1.hasRoom e0.platform room_1 = true :=
  launch0.hasRoom_least _ room_1 (by decide +kernel) (by decide +kernel) (by decide +kernel) (by decide +kernel) (by decide +kernel) (by decide +kernel)
theorem allAtoms_all (ts : List Jvm.Cond) (a : Array Jvm.Value) (st : Jvm.State) : (allAtoms ts).before a st = ts.all (fun c => c.before a st) := by
  induction ts with
  | nil => rfl
  | cons c t ih =>
    show (Jvm.Cond.and c (allAtoms t)).before a st = _
    rw [Jvm.Cond.before_and, ih, List.all_cons]
def words1 : List Jvm.Cond := Jvm.Cond.code x code maxLocals ret :: tables_1
/-- a 'code' word, met by the world's own term for the bytes: nothing is compared byte by byte -/
theorem code_word {y : MethodName} {bytes : ByteArray} {mx : Nat} {rt : Option FieldType} {a : Array Value} {s : State} {m : MethodId} {meth : Method} {c : Code} (h1 : s.methodNamed? y = some m) (h2 : s.vm.method? m = some meth) (h3 : meth.code = some c) (h4 : c.code = bytes)
    (h5 : (c.maxLocals == mx && c.exceptionTable.isEmpty && decide (c.maxStack ≤ mostOperands) && decide (meth.sig.returnType = rt) && !meth.locks && decide (parseMethodDescriptor y.desc = some meth.sig)) = true) : (Jvm.Cond.code y bytes mx rt).before a s = true := by
  simp only [Bool.and_eq_true, beq_iff_eq, Bool.not_eq_true', decide_eq_true_eq] at h5
  obtain ⟨⟨⟨⟨⟨g1, g2⟩, g3⟩, g4⟩, g5⟩, g6⟩ := h5
  simp [Cond.before, Cond.holds, Cond.value, h1, h2, h3, h4, g1, g2, g3, g4, g5, g6]
def isCode : Jvm.Cond → Bool
  | .code _ _ _ _ => true
  | _ => false
theorem all_split {L : List Jvm.Cond} {P : Jvm.Cond → Bool} (h1 : L.all (fun c => isCode c || P c) = true) (h2 : ∀ c ∈ L.filter isCode, P c = true) : L.all P = true := by
  refine List.all_eq_true.mpr fun c hc => ?_
  have h := List.all_eq_true.mp h1 c hc
  rcases Bool.eq_false_or_eq_true (isCode c) with hi | hi
  · exact h2 c (List.mem_filter.mpr ⟨hc, hi⟩)
  · simpa [hi] using h
set_option maxRecDepth 65536 in
theorem w_c0 : (Jvm.Cond.code x code maxLocals ret).before args0 about1 = true := code_word (m := ⟨1, 1⟩) (meth := k1m1) (c := k1c1) (by decide +kernel) rfl rfl rfl (by decide +kernel)
set_option maxRecDepth 65536 in
theorem w_c1 : (Jvm.Cond.code ({ cls := "com/example/epoch/epoch/protocol/record/AbortedTransaction", name := "<init>", desc := "(JJ)V" } : Jvm.MethodName) prog_96_method_1_code (5 : Nat) (Option.none : Option Jvm.ClassFile.FieldType)).before args0 about1 = true := code_word (m := ⟨2, 0⟩) (meth := k2m0) (c := k2c0) (by decide +kernel) rfl rfl rfl (by decide +kernel)
set_option maxRecDepth 65536 in
theorem w_c2 : (Jvm.Cond.code ({ cls := "java/lang/Object", name := "<init>", desc := "()V" } : Jvm.MethodName) object_method_1_code (1 : Nat) (Option.none : Option Jvm.ClassFile.FieldType)).before args0 about1 = true := code_word (m := ⟨0, 0⟩) (meth := k0m0) (c := k0c0) (by decide +kernel) rfl rfl rfl (by decide +kernel)
set_option maxRecDepth 65536 in
theorem w_c3 : (Jvm.Cond.code ({ cls := "com/example/epoch/epoch/protocol/record/AbortedTransaction", name := "equals", desc := "(Ljava/lang/Object;)Z" } : Jvm.MethodName) prog_96_method_4_code (3 : Nat) (Option.some Jvm.ClassFile.FieldType.boolean)).before args0 about1 = true := code_word (m := ⟨2, 1⟩) (meth := k2m1) (c := k2c1) (by decide +kernel) rfl rfl rfl (by decide +kernel)
set_option maxRecDepth 65536 in
theorem w_c4 : (Jvm.Cond.code ({ cls := "java/lang/Long", name := "valueOf", desc := "(J)Ljava/lang/Long;" } : Jvm.MethodName) jdk_35_method_24_code (3 : Nat) (Option.some (Jvm.ClassFile.FieldType.object "java/lang/Long"))).before args0 about1 = true := code_word (m := ⟨8, 0⟩) (meth := k8m0) (c := k8c0) (by decide +kernel) rfl rfl rfl (by decide +kernel)
set_option maxRecDepth 65536 in
theorem w_c5 : (Jvm.Cond.code ({ cls := "java/lang/Long", name := "<init>", desc := "(J)V" } : Jvm.MethodName) jdk_35_method_26_code (3 : Nat) (Option.none : Option Jvm.ClassFile.FieldType)).before args0 about1 = true := code_word (m := ⟨8, 1⟩) (meth := k8m1) (c := k8c1) (by decide +kernel) rfl rfl rfl (by decide +kernel)
set_option maxRecDepth 65536 in
theorem w_c6 : (Jvm.Cond.code ({ cls := "java/lang/Number", name := "<init>", desc := "()V" } : Jvm.MethodName) jdk_18_method_1_code (1 : Nat) (Option.none : Option Jvm.ClassFile.FieldType)).before args0 about1 = true := code_word (m := ⟨4, 0⟩) (meth := k4m0) (c := k4c0) (by decide +kernel) rfl rfl rfl (by decide +kernel)
def codes1 : List Jvm.Cond := [Jvm.Cond.code x code maxLocals ret, Jvm.Cond.code ({ cls := "com/example/epoch/epoch/protocol/record/AbortedTransaction", name := "<init>", desc := "(JJ)V" } : Jvm.MethodName) prog_96_method_1_code (5 : Nat) (Option.none : Option Jvm.ClassFile.FieldType), Jvm.Cond.code ({ cls := "java/lang/Object", name := "<init>", desc := "()V" } : Jvm.MethodName) object_method_1_code (1 : Nat) (Option.none : Option Jvm.ClassFile.FieldType), Jvm.Cond.code ({ cls := "com/example/epoch/epoch/protocol/record/AbortedTransaction", name := "equals", desc := "(Ljava/lang/Object;)Z" } : Jvm.MethodName) prog_96_method_4_code (3 : Nat) (Option.some Jvm.ClassFile.FieldType.boolean), Jvm.Cond.code ({ cls := "java/lang/Long", name := "valueOf", desc := "(J)Ljava/lang/Long;" } : Jvm.MethodName) jdk_35_method_24_code (3 : Nat) (Option.some (Jvm.ClassFile.FieldType.object "java/lang/Long")), Jvm.Cond.code ({ cls := "java/lang/Long", name := "<init>", desc := "(J)V" } : Jvm.MethodName) jdk_35_method_26_code (3 : Nat) (Option.none : Option Jvm.ClassFile.FieldType), Jvm.Cond.code ({ cls := "java/lang/Number", name := "<init>", desc := "()V" } : Jvm.MethodName) jdk_18_method_1_code (1 : Nat) (Option.none : Option Jvm.ClassFile.FieldType)]
set_option maxRecDepth 65536 in
theorem codes_eq : words1.filter isCode = codes1 := rfl
theorem w_codes : ∀ c ∈ words1.filter isCode, c.before args0 about1 = true := by
  rw [codes_eq]
  intro c hc
  simp only [codes1, List.mem_cons, List.not_mem_nil, or_false] at hc
  rcases hc with rfl | rfl | rfl | rfl | rfl | rfl | rfl
  · exact w_c0
  · exact w_c1
  · exact w_c2
  · exact w_c3
  · exact w_c4
  · exact w_c5
  · exact w_c6
set_option maxRecDepth 65536 in
theorem w_t1 : (words1.take 24).all (fun c => isCode c || c.before args0 about1) = true := by decide +kernel
set_option maxRecDepth 65536 in
theorem w_t2 : (words1.drop 24).all (fun c => isCode c || c.before args0 about1) = true := by decide +kernel
theorem w_tables : (allAtoms (Jvm.Cond.code x code maxLocals ret :: tables_1)).before args0 about1 = true := by
  rw [allAtoms_all]
  show words1.all (fun c => c.before args0 about1) = true
  refine all_split ?_ w_codes
  rw [← List.take_append_drop 24 words1, List.all_append, w_t1, w_t2]
  rfl
set_option maxRecDepth 65536 in
theorem w_rest : rest_1_c.before args0 about1 = true := by decide +kernel
set_option maxRecDepth 65536 in
theorem w_case : (Jvm.Cond.and given_1 narrow_1).before args0 about1 = true := by decide +kernel
theorem w_applies : (headSpec (Jvm.Cond.code x code maxLocals ret :: tables_1) room_1).applies x e0.platform about1 = true :=
  (Spec.applies_iff w_frames).mpr ⟨w_running, w_runnable, w_alone, w_named, w_hears, w_ripe, w_room, w_tables⟩
theorem atStart : AtStart classFile x code maxLocals ret World_1 tables_1 room_1 Calls_1 rest_1 Pre_1 launch0 p0 e0 about1 theMethod args0 below0 :=
  ⟨lists_1, trivial, launch0.admits_env _ _ _, launch0.least_env, fairChoices_fair.cas, fairChoices_fair.clock, w_frames, w_args, w_heap, w_applies, trivial, w_rest, w_case⟩
end start1
theorem witness_1 : WitnessClaimed_1 := ⟨start1.p0, start1.e0, start1.about1, start1.theMethod, start1.args0, start1.below0, start1.atStart⟩
end Jvm.Pilot.@@N@@
