import JvmDerived
import JvmDerived.Pilot.@@N@@Statement
import JvmDerived.Pilot.@@N@@Code
set_option linter.unusedVariables false
set_option linter.unusedSimpArgs false
namespace Jvm.RoadKit
open Sem ClassFile Op Lib Jvm.Stand Jvm.Free Jvm.LawKit
section New
variable {p : Program} {l : Launch} {e : Env} {R : Room} {s : State} {m : MethodId} {args : Array Value} {below : List Frame} {meth : Method} {c : Code} {T : State} {locs : List Loc} {cells slots : Nat}
theorem retI (X : Stand p l e R s m args below meth c T locs cells slots) (hx : p.tables.exec = Jvm.exec) {pc : Nat} {Ls : Array Slot} {z : Int32} {rest : List Value} (hret : meth.sig.returnType = some .int) (hd : decode c.code pc = .ok (.ireturn, 1)) {fs : List Frame}
    (hl : ∀ (f : JFrame) (acts : List Action), f.method = m → f.locked = none → f.entered = [] → (doReturn e (T.setTop f) acts (some (.int z))).1 = T.setFrames fs) : Steps p.tables e below (T.setTop (mkF m pc Ls (.int z :: rest))) (T.setFrames fs) := by
  have hm' : T.vm.method? m = some meth := X.method'
  have hn : narrow .int (.int z) = .int z := rfl
  show Steps p.tables e below (T.setTop { method := m, pc := pc, locals := Ls, stack := _ :: rest, locked := none }) _
  jvm_step X.here [X.here.top, hx, hd, hm', hret, hn]
  first | (intro acts; rw [hl _ acts rfl rfl rfl]) | rw [hl _ _ rfl rfl rfl]
  exact Steps.refl _
end New
section Own
variable {p : Program} {l : Launch} {e : Env} {R : Room} {s : State} {m : MethodId} {args : Array Value} {below : List Frame} {meth : Method} {c : Code} {T A B : State} {locs : List Loc} {cells slots k n : Nat} {Q : Option Value → Heap → List Loc → Prop}
/-- from A the walk comes to its end, and Q holds there -/
def own_Go (p : Program) (e : Env) (below : List Frame) (s : State) (Q : Option Value → Heap → List Loc → Prop) (k n : Nat) (A : State) : Prop :=
  ∃ s₂ o, Steps p.tables e below A s₂ ∧ s₂.status = .running ∧ Ended s₂ below o ∧ ∃ v L, o = .returned v ∧ Q v s₂.heap L ∧ FrameEnd s o s₂ L k n
theorem own_st (h : ∀ t, Steps p.tables e below B t → Steps p.tables e below A t) (g : own_Go p e below s Q k n B) : own_Go p e below s Q k n A := by
  obtain ⟨s₂, o, h1, r⟩ := g
  exact ⟨s₂, o, h _ h1, r⟩
theorem own_tr (h : Steps p.tables e below A B) (g : own_Go p e below s Q k n B) : own_Go p e below s Q k n A := own_st (fun _ q => h.trans q) g
theorem own_end (X : Stand p l e R s m args below meth c T locs cells slots) (hlk : meth.locks = false) {v : Option Value} (hv : meth.sig.returnType = none → v = none) (hk : cells ≤ k) (hn : slots ≤ n) (hQ : Q v T.heap locs) {g : JFrame}
    (hgo : ∀ fs, (∀ (f : JFrame) (acts : List Action), f.method = m → f.locked = none → f.entered = [] → (doReturn e (T.setTop f) acts v).1 = T.setFrames fs) → Steps p.tables e below (T.setTop g) (T.setFrames fs)) : own_Go p e below s Q k n (T.setTop g) := by
  obtain ⟨fs, hr, hrun, hended, hW, hsame⟩ := X.leave hv hlk
  exact ⟨_, _, hgo fs hr, hrun, hended, v, locs, rfl, hQ, ⟨_, rfl⟩, hW, hsame.mono hk hn⟩
theorem own_retI (X : Stand p l e R s m args below meth c T locs cells slots) (hx : p.tables.exec = Jvm.exec) (hlk : meth.locks = false) {pc : Nat} {Ls : Array Slot} {z : Int32} {rest : List Value} (hret : meth.sig.returnType = some .int) (hd : decode c.code pc = .ok (.ireturn, 1)) (hk : cells ≤ k) (hn : slots ≤ n) (hQ : Q (some (.int z)) T.heap locs) :
    own_Go p e below s Q k n (T.setTop (mkF m pc Ls (.int z :: rest))) := own_end X hlk (fun h => by rw [hret] at h; cases h) hk hn hQ fun fs hr => retI X hx hret hd hr
theorem own_retN (X : Stand p l e R s m args below meth c T locs cells slots) (hx : p.tables.exec = Jvm.exec) (hlk : meth.locks = false) {pc : Nat} {Ls : Array Slot} {z z' : Int32} {rest : List Value} {t : FieldType} (hret : meth.sig.returnType = some t) (ht : t = .boolean ∨ t = .byte ∨ t = .char ∨ t = .short) (hz : nar t z = z') (hd : decode c.code pc = .ok (.ireturn, 1)) (hk : cells ≤ k) (hn : slots ≤ n) (hQ : Q (some (.int z')) T.heap locs) :
    own_Go p e below s Q k n (T.setTop (mkF m pc Ls (.int z :: rest))) := own_end X hlk (v := some (.int (nar t z))) (fun h => by rw [hret] at h; cases h) hk hn (hz ▸ hQ) fun fs hr => retN X hx hret ht hd hr
theorem own_retJ (X : Stand p l e R s m args below meth c T locs cells slots) (hx : p.tables.exec = Jvm.exec) (hlk : meth.locks = false) {pc : Nat} {Ls : Array Slot} {z : Int64} {rest : List Value} (hret : meth.sig.returnType = some .long) (hd : decode c.code pc = .ok (.lreturn, 1)) (hk : cells ≤ k) (hn : slots ≤ n) (hQ : Q (some (.long z)) T.heap locs) :
    own_Go p e below s Q k n (T.setTop (mkF m pc Ls (.long z :: rest))) := own_end X hlk (fun h => by rw [hret] at h; cases h) hk hn hQ fun fs hr => retOut X hx hret rfl (Or.inr (Or.inl ⟨rfl, rfl, _, rfl⟩)) hd hr
theorem own_retA (X : Stand p l e R s m args below meth c T locs cells slots) (hx : p.tables.exec = Jvm.exec) (hlk : meth.locks = false) {pc : Nat} {Ls : Array Slot} {w : Value} {t : FieldType} {rest : List Value} (hret : meth.sig.returnType = some t) (hw : w.isRef = true) (hd : decode c.code pc = .ok (.areturn, 1)) (hk : cells ≤ k) (hn : slots ≤ n) (hQ : Q (some w) T.heap locs) (ht : t.isReference = true := by rfl) :
    own_Go p e below s Q k n (T.setTop (mkF m pc Ls (w :: rest))) := own_end X hlk (fun h => by rw [hret] at h; cases h) hk hn hQ fun fs hr => retOut X hx hret (by cases w <;> first | (cases hw; done) | (cases t <;> first | (cases ht; done) | rfl)) (Or.inr (Or.inr (Or.inr (Or.inr ⟨rfl, ht, hw⟩)))) hd hr
theorem own_ret0 (X : Stand p l e R s m args below meth c T locs cells slots) (hx : p.tables.exec = Jvm.exec) (hlk : meth.locks = false) {pc : Nat} {Ls : Array Slot} (hret : meth.sig.returnType = none) (hd : decode c.code pc = .ok (.return_, 1)) (hk : cells ≤ k) (hn : slots ≤ n) (hQ : Q none T.heap locs) :
    own_Go p e below s Q k n (T.setTop (mkF m pc Ls [])) := own_end X hlk (fun _ => rfl) hk hn hQ fun fs hr => X.returnOut hx hret hd hr
end Own
theorem own_narR {C : String} {v : Value} (h : v.isRef = true) : narrow (.object C) v = v := by cases v <;> first | rfl | (cases h; done)
theorem own_fitR {C : String} {v : Value} (h : v.isRef = true) : fits (.object C) v = true := by cases v <;> first | rfl | (cases h; done)
theorem own_pad (n : Nat) (d : Value) (i : Nat) : (List.replicate n d).getD i d = ([] : List Value).getD i d := by
  have h := pad_rep [] d n i
  simpa using h
end Jvm.RoadKit
namespace Jvm.Pilot.@@N@@
open Jvm Jvm.ClassFile Sem Op Lib Jvm.Free Jvm.Stand Jvm.LawKit Jvm.RoadKit Bundle Jvm.Pilot.@@N@@.Jvm.D
theorem own_eqV {args : Array Value} {first s : State} {o : Option Outcome} {idx : List Nat} {t u : Term} {w : Value} (h : (Cond.eq t u).value args first o s idx = some true) (hu : u.eval args first o idx s = some w) : t.eval args first o idx s = some w := by
  simp only [Cond.value, hu] at h
  cases ht : t.eval args first o idx s with
  | none => simp [ht] at h
  | some v => cases v <;> cases w <;> simp_all

theorem own_NSroot {Z : State} {a0 : Array Value} {O K : String} {n : Nat} (w : (Cond.noSuperclass O).before a0 Z = true) (wi : (Cond.instantiable K n).before a0 Z = true) (hn : O ≠ K) : NS Z O K := by
  obtain ⟨c, k, h1, h2, h3, -, -⟩ := Cond.noSuperclass_spec w
  obtain ⟨t, k', g1, -⟩ := Cond.instantiable_spec wi
  have ne := ids_ne h1 g1 hn
  refine ⟨c, t, h1, g1, fun fuel => ?_⟩
  cases fuel with
  | zero => rfl
  | succ f => simp [Vm.isSubclassAux, ne, h2, h3]
theorem own_no {Z : State} {a0 : Array Value} {C S K : String} {n : Nat} (w : (Cond.superclass C S).before a0 Z = true) (wi : (Cond.instantiable K n).before a0 Z = true) (nn : NS Z C K) (hn : C ≠ K) : ∃ c t, Z.vm.findClass C = some c ∧ Z.vm.findClass K = some t ∧ Z.vm.assignable c t = false := by
  obtain ⟨c, t, h0, g0, n3⟩ := nn
  obtain ⟨p, k, kp, h1, h2, h3, h4, h5, -, h7⟩ := Cond.superclass_spec h0 w
  obtain ⟨t', k', g1, g2, g3, g4, -⟩ := Cond.instantiable_spec wi
  cases g0.symm.trans g1
  have g7 : k'.isInterface = false := by
    rw [Bool.or_eq_false_iff] at g4
    exact g4.1
  have ne := ids_ne h0 g0 hn
  refine ⟨c, t, h0, g0, ?_⟩
  show Z.vm.assignableAux (255 + 1) c t = false
  simp [Vm.assignableAux, ne, h2, g2, h5, g3, g7, Vm.isSubclass, n3]
def own_BoxJ (Z : State) (aC : Addr) : Prop := ∃ cl : Cell, Arr Z Z.heap aC cl (.object "java/lang/Long") ∧ cl.slots.size = 256 ∧ ∀ j : Int32, ¬ (j < 0 ∨ 256 ≤ j.toNatClampNeg) → ∃ r, cl.slots[j.toNatClampNeg]? = some (.ref r) ∧ Exa Z Z.heap r "java/lang/Long" ∧ Fld Z Z.heap r "java/lang/Long" "value" "J" (.long (j - 128).toInt64)
theorem own_boxJ {args : Array Value} {s : State} {aC : Addr} (ev : (Term.static "java/lang/Long$LongCache" "cache" "[Ljava/lang/Long;").eval args s none [] s = some (.ref aC)) (h2 : (Cond.arrayOf (Term.static "java/lang/Long$LongCache" "cache" "[Ljava/lang/Long;") (.object "java/lang/Long")).before args s = true) (h4 : (Cond.eq (.length (Term.static "java/lang/Long$LongCache" "cache" "[Ljava/lang/Long;")) (.int 256)).before args s = true)
    (h5 : (Cond.all (Term.static "java/lang/Long$LongCache" "cache" "[Ljava/lang/Long;") (.and (.exactly (.elem (Term.static "java/lang/Long$LongCache" "cache" "[Ljava/lang/Long;") (.index 0)) "java/lang/Long") (.eq (.field (.elem (Term.static "java/lang/Long$LongCache" "cache" "[Ljava/lang/Long;") (.index 0)) "java/lang/Long" "value" "J") (.op1 .i2l (.sub (.index 0) (.int 128)))))).before args s = true) : own_BoxJ s aC := by
  obtain ⟨cl, A⟩ := Arr.start ev (Cond.before_iff.mp h2)
  have hat : s.arrayAt? aC = some cl := IntBox.arrayAt_of A.1 A.2.1 A.2.2
  obtain ⟨hsz, hsize⟩ := IntBox.length_fwd h4 ev A.1 A.2.1 A.2.2
  have h256 : cl.slots.size = 256 := by
    have e := len_toInt hsz
    rw [hsize] at e
    have e2 : (256 : Int32).toInt = 256 := by decide
    omega
  have hall := Cond.all_elim ev hat (Cond.before_iff.mp h5)
  refine ⟨cl, A, h256, fun j hj => ?_⟩
  have hn : ¬ j < 0 := fun q => hj (Or.inl q)
  have hlt : j.toNatClampNeg < cl.slots.size := by rw [h256]; exact Nat.lt_of_not_le fun q => hj (Or.inr q)
  obtain ⟨g1, g2⟩ := and_e (hall _ hlt)
  obtain ⟨r, er⟩ := exa_v g1
  have ev' : (Term.static "java/lang/Long$LongCache" "cache" "[Ljava/lang/Long;").eval args s none [j.toNatClampNeg] s = some (.ref aC) := ev
  have ei : (Term.index 0).eval args s none [j.toNatClampNeg] s = some (.int j) := idx_at hn
  have el := elem_f (t := (Term.static "java/lang/Long$LongCache" "cache" "[Ljava/lang/Long;")) (a := .index 0) ev' ei hat hn
  have hr : cl.slots[j.toNatClampNeg]? = some (.ref r) := el.symm.trans er
  have es : (Term.sub (.index 0) (.int 128)).eval args s none [j.toNatClampNeg] s = some (.int (j - 128)) := by simp [Term.eval, (back32 hn).1]
  have ef := own_eqV g2 (w := .long (j - 128).toInt64) ((op1_f es).trans rfl)
  exact ⟨r, hr, exa_at er g1, Fld.start ((fld_at er).symm.trans ef)⟩
theorem own_bkJ (w : Int64) (h1 : ¬ w < -128) (h2 : ¬ 127 < w) : ((w.toInt32 + 128) - 128).toInt64 = w := by
  have e : (w.toInt32 + 128) - 128 = w.toInt32 := by simp
  rw [e]
  refine XT.narrowOk ⟨?_, ?_⟩
  · rw [Int64.lt_iff_toInt_lt] at h1
    have : (-128 : Int64).toInt = -128 := by decide
    omega
  · rw [Int64.lt_iff_toInt_lt] at h2
    have : (127 : Int64).toInt = 127 := by decide
    omega
theorem own_d_jdk_18_method_1_code_0 : decode jdk_18_method_1_code 0 = .ok (.aload_n 0, 1) := by decide +kernel
theorem own_d_jdk_18_method_1_code_1 : decode jdk_18_method_1_code 1 = .ok (.invokespecial 1, 3) := by decide +kernel
theorem own_d_jdk_18_method_1_code_4 : decode jdk_18_method_1_code 4 = .ok (.return_, 1) := by decide +kernel
theorem own_pn0 : plainFor (⟨"java/lang/Number", "<init>", "()V"⟩ : MethodName) = true := by decide +kernel
def own_rm_number_Q (Z : State) (r : Addr) (h0 : Heap) (n0 : Nat) (v : Option Value) (h : Heap) (L : List Loc) : Prop := Fr n0 L ∧ v = none ∧ h = h0
theorem own_rm_number_ef (m : MethodId) (r : Addr) : entryFrame m #[(.ref r)] 1 = mkF m 0 #[.val (.ref r)] [] := by first | (simp [entryFrame, mkF, argsToLocals, Value.category]; done) | rfl
set_option maxRecDepth 65536 in
set_option maxHeartbeats 40000000 in
theorem own_rm_number (l : Launch) (Z : State) (a0 : Array Value) (hw : ∀ d ∈ tables_1, d.before a0 Z = true) (ws : List Jvm.Cond) (r : Addr) (h0 : Heap) (n0 : Nat) (Z0 : n0 ≤ h0.size)  :
    MetFree l (⟨"java/lang/Number", "<init>", "()V"⟩ : MethodName) (head1 (Jvm.Cond.code (⟨"java/lang/Number", "<init>", "()V"⟩ : MethodName) jdk_18_method_1_code 1 none :: ws) ({ frames := 1, cells := 0, slots := 0, locals := 12 } : Room)) (fun a U => a = #[(.ref r)] ∧ Z.Warmed39 U.vm ∧ U.heap = h0) (fun _ _ _ _ _ => True) (fun _ U o U' => ∃ v L, o = .returned v ∧ own_rm_number_Q Z r h0 n0 v U'.heap L ∧ FrameEnd U o U' L ({ frames := 1, cells := 0, slots := 0, locals := 12 } : Room).cells ({ frames := 1, cells := 0, slots := 0, locals := 12 } : Room).slots) := by
  refine MetFree.of_bodySF own_pn0 hisR ?_
  intro p e s m args below meth c s₁ Bd hml0 hP hK
  obtain ⟨rfl, hZ, hh⟩ := hP
  have hx := Bd.exec
  have hby := Bd.bytes
  have hml : c.maxLocals = 1 := hml0
  have hlk := BodyLoose.notSynchronized Bd
  have hown : s.vm.findClass "java/lang/Number" = some m.cls := findClass_of_methodNamed Bd.named
  have hnm := (name_of_methodNamed Bd.named Bd.method).1
  have X0 : Stand p l e ({ frames := 1, cells := 0, slots := 0, locals := 12 } : Room) s m #[(.ref r)] below meth c s₁ [] 0 0 := Stand.of_body Bd
  have e0 : s₁.heap = h0 := by rw [← hh, Bd.state]; rfl
  have N0 := Fr.nil n0
  show own_Go p e below s (own_rm_number_Q Z r h0 n0) ({ frames := 1, cells := 0, slots := 0, locals := 12 } : Room).cells ({ frames := 1, cells := 0, slots := 0, locals := 12 } : Room).slots (s₁.setTop (entryFrame m #[(.ref r)] 1))
  rw [own_rm_number_ef]
  show own_Go p e below s _ _ _ (s₁.setTop (mkF m 0 #[.val (.ref r)] []))
  refine own_st (fun _ k => XS.aloadN X0.here hx rfl (hb hby own_d_jdk_18_method_1_code_0) rfl rfl k) ?_
  show own_Go p e below s _ _ _ (s₁.setTop (mkF m 1 #[.val (.ref r)] [(.ref r)]))
  obtain ⟨T1, X1, e1, st1⟩ := initO X0 hx hZ hown (hw _ (List.mem_of_getElem? (i := 37) rfl)) (hw _ (List.mem_of_getElem? (i := 7) rfl)) (hw _ (List.mem_of_getElem? (i := 8) rfl)) e0 (g := (mkF m 1 #[.val (.ref r)] [(.ref r)])) rfl (by rw [hml]; rfl) rfl (hb hby own_d_jdk_18_method_1_code_1) (by decide) (W := 0) (by show 2 * 0 + _ ≤ _; exact Nat.le_of_eq rfl) (by decide)
  refine own_st st1 ?_
  show own_Go p e below s _ _ _ (T1.setTop (mkF m 4 #[.val (.ref r)] []))
  refine own_ret0 X1 hx hlk Bd.returns (hb hby own_d_jdk_18_method_1_code_4) (by decide) (by decide) ?_
  rw [e1]
  exact ⟨N0, rfl, rfl⟩
theorem own_d_jdk_35_method_26_code_0 : decode jdk_35_method_26_code 0 = .ok (.aload_n 0, 1) := by decide +kernel
theorem own_d_jdk_35_method_26_code_1 : decode jdk_35_method_26_code 1 = .ok (.invokespecial 270, 3) := by decide +kernel
theorem own_d_jdk_35_method_26_code_4 : decode jdk_35_method_26_code 4 = .ok (.aload_n 0, 1) := by decide +kernel
theorem own_d_jdk_35_method_26_code_5 : decode jdk_35_method_26_code 5 = .ok (.lload_n 1, 1) := by decide +kernel
theorem own_d_jdk_35_method_26_code_6 : decode jdk_35_method_26_code 6 = .ok (.putfield 273, 3) := by decide +kernel
theorem own_d_jdk_35_method_26_code_9 : decode jdk_35_method_26_code 9 = .ok (.return_, 1) := by decide +kernel
theorem own_pn1 : plainFor (⟨"java/lang/Long", "<init>", "(J)V"⟩ : MethodName) = true := by decide +kernel
theorem own_pd0 : parseMethodDescriptor "()V" = some ⟨[], none⟩ := by decide +kernel
def own_rm_boxinitJ_Q (Z : State) (r : Addr) (p1 : Int64) (h0 : Heap) (n0 : Nat) (v : Option Value) (h : Heap) (L : List Loc) : Prop := Fr n0 L ∧ v = none ∧ Keep h0 h [r] ∧ Exa Z h r "java/lang/Long" ∧ Fld Z h r "java/lang/Long" "value" "J" (.long p1)
theorem own_rm_boxinitJ_ef (m : MethodId) (r : Addr) (p1 : Int64) : entryFrame m #[(.ref r), (.long p1)] 3 = mkF m 0 #[.val (.ref r), .val (.long p1), .second] [] := by first | (simp [entryFrame, mkF, argsToLocals, Value.category]; done) | rfl
set_option maxRecDepth 65536 in
set_option maxHeartbeats 40000000 in
theorem own_rm_boxinitJ (l : Launch) (Z : State) (a0 : Array Value) (hw : ∀ d ∈ tables_1, d.before a0 Z = true) (ws : List Jvm.Cond) (r : Addr) (p1 : Int64) (h0 : Heap) (n0 : Nat) (Z0 : n0 ≤ h0.size) (E1 : Exa Z h0 r "java/lang/Long") (F1 : Fld Z h0 r "java/lang/Long" "value" "J" (.long (0 : Int64))) (g1 : n0 ≤ r) :
    MetFree l (⟨"java/lang/Long", "<init>", "(J)V"⟩ : MethodName) (head1 (Jvm.Cond.code (⟨"java/lang/Long", "<init>", "(J)V"⟩ : MethodName) jdk_35_method_26_code 3 none :: ws) ({ frames := 2, cells := 0, slots := 0, locals := 24 } : Room)) (fun a U => a = #[(.ref r), (.long p1)] ∧ Z.Warmed39 U.vm ∧ U.heap = h0) (fun _ _ _ _ _ => True) (fun _ U o U' => ∃ v L, o = .returned v ∧ own_rm_boxinitJ_Q Z r p1 h0 n0 v U'.heap L ∧ FrameEnd U o U' L ({ frames := 2, cells := 0, slots := 0, locals := 24 } : Room).cells ({ frames := 2, cells := 0, slots := 0, locals := 24 } : Room).slots) := by
  refine MetFree.of_bodySF own_pn1 hisR ?_
  intro p e s m args below meth c s₁ Bd hml0 hP hK
  obtain ⟨rfl, hZ, hh⟩ := hP
  have hx := Bd.exec
  have hby := Bd.bytes
  have hml : c.maxLocals = 3 := hml0
  have hlk := BodyLoose.notSynchronized Bd
  have hown : s.vm.findClass "java/lang/Long" = some m.cls := findClass_of_methodNamed Bd.named
  have hnm := (name_of_methodNamed Bd.named Bd.method).1
  have X0 : Stand p l e ({ frames := 2, cells := 0, slots := 0, locals := 24 } : Room) s m #[(.ref r), (.long p1)] below meth c s₁ [] 0 0 := Stand.of_body Bd
  have e0 : s₁.heap = h0 := by rw [← hh, Bd.state]; rfl
  have N0 := Fr.nil n0
  have Kp0 : Keep h0 h0 [r] := Keep.refl _ _
  show own_Go p e below s (own_rm_boxinitJ_Q Z r p1 h0 n0) ({ frames := 2, cells := 0, slots := 0, locals := 24 } : Room).cells ({ frames := 2, cells := 0, slots := 0, locals := 24 } : Room).slots (s₁.setTop (entryFrame m #[(.ref r), (.long p1)] 3))
  rw [own_rm_boxinitJ_ef]
  show own_Go p e below s _ _ _ (s₁.setTop (mkF m 0 #[.val (.ref r), .val (.long p1), .second] []))
  refine own_st (fun _ k => XS.aloadN X0.here hx rfl (hb hby own_d_jdk_35_method_26_code_0) rfl rfl k) ?_
  show own_Go p e below s _ _ _ (s₁.setTop (mkF m 1 #[.val (.ref r), .val (.long p1), .second] [(.ref r)]))
  obtain ⟨_, _, ⟨T2, L2, k2, n2⟩, -, X2, ⟨Lc2, hQ2, l2, y2, z2⟩, st2⟩ := X0.specialBack hx (y := (⟨"java/lang/Number", "<init>", "()V"⟩ : MethodName)) rfl hown (mvT hZ (hw _ (List.mem_of_getElem? (i := 31) rfl))) (mvT hZ (hw _ (List.mem_of_getElem? (i := 32) rfl))) (mvT hZ (hw _ (List.mem_of_getElem? (i := 36) rfl))) (by decide) (backOf (W := 0) (own_rm_number l Z a0 hw [] r h0 n0 Z0 ) hZ (hw _ (List.mem_of_getElem? (i := 36) rfl)) (hw _ (List.mem_of_getElem? (i := 35) rfl)) (by decide) (by decide)) (g := (mkF m 1 #[.val (.ref r), .val (.long p1), .second] [(.ref r)])) rfl (by rw [hml]; rfl) (Steps.refl _) (a := r) (argsL := []) (rest := []) (lenOf own_pd0 rfl) rfl (by show 2 * 0 + _ ≤ _; exact Nat.le_of_eq rfl) (hb hby own_d_jdk_35_method_26_code_1) (fun _ _ => ⟨rfl, e0, (by decide : 0 + 0 ≤ _), (by decide : 0 + 0 ≤ _)⟩)
  dsimp only [Pt.U, Pt.locs, Pt.cells, Pt.slots] at X2 l2 y2 z2 st2 hQ2
  subst l2 y2 z2
  obtain ⟨N2q, rfl, eh2⟩ := hQ2
  have N3 := Fr.app N0 N2q
  refine own_tr st2 ?_
  show own_Go p e below s _ _ _ (T2.setTop (mkF m 4 #[.val (.ref r), .val (.long p1), .second] []))
  refine own_st (fun _ k => XS.aloadN X2.here hx rfl (hb hby own_d_jdk_35_method_26_code_4) rfl rfl k) ?_
  show own_Go p e below s _ _ _ (T2.setTop (mkF m 5 #[.val (.ref r), .val (.long p1), .second] [(.ref r)]))
  refine own_st (fun _ k => XT.lloadN X2.here hx rfl (hb hby own_d_jdk_35_method_26_code_5) rfl k) ?_
  show own_Go p e below s _ _ _ (T2.setTop (mkF m 6 #[.val (.ref r), .val (.long p1), .second] [(.long p1), (.ref r)]))
  obtain ⟨T4, h4, X4, e4, W4, st4⟩ := putF X2 hx hZ hown (host := "") (Or.inl (hw _ (List.mem_of_getElem? (i := 38) rfl))) Via.refl eh2 F1 E1 (Or.inr ⟨(hw _ (List.mem_of_getElem? (i := 39) rfl)), rfl, hnm⟩) (hw _ (List.mem_of_getElem? (i := 26) rfl)) (ty := .long) (by decide) rfl rfl (g := (mkF m 6 #[.val (.ref r), .val (.long p1), .second] [(.long p1), (.ref r)])) rfl rfl (hb hby own_d_jdk_35_method_26_code_6)
  refine own_st st4 ?_
  have N5 := Fr.snoc X4 N3 g1
  have F6 : Fld Z h4 r "java/lang/Long" "value" "J" (.long p1) := F1.same W4
  have Zs7 : n0 ≤ h4.size := Nat.le_trans Z0 (Nat.le_of_eq W4.size.symm)
  have Kp8 : Keep h0 h4 [r] := Kp0.wr W4 (Or.inl (List.mem_of_getElem? (i := 0) rfl))
  show own_Go p e below s _ _ _ (T4.setTop (mkF m 9 #[.val (.ref r), .val (.long p1), .second] []))
  have F9 : Exa Z h4 r "java/lang/Long" := (E1.wr W4)
  refine own_ret0 X4 hx hlk Bd.returns (hb hby own_d_jdk_35_method_26_code_9) (by decide) (by decide) ?_
  rw [e4]
  exact ⟨N5, rfl, Kp8, F9, F6⟩
theorem own_d_jdk_35_method_24_code_0 : decode jdk_35_method_24_code 0 = .ok (.sipush 128, 3) := by decide +kernel
theorem own_d_jdk_35_method_24_code_3 : decode jdk_35_method_24_code 3 = .ok (.istore_n 2, 1) := by decide +kernel
theorem own_d_jdk_35_method_24_code_4 : decode jdk_35_method_24_code 4 = .ok (.lload_n 0, 1) := by decide +kernel
theorem own_d_jdk_35_method_24_code_5 : decode jdk_35_method_24_code 5 = .ok (.ldc2_w 230, 3) := by decide +kernel
theorem own_d_jdk_35_method_24_code_8 : decode jdk_35_method_24_code 8 = .ok (.lcmp, 1) := by decide +kernel
theorem own_d_jdk_35_method_24_code_9 : decode jdk_35_method_24_code 9 = .ok (.ifCond .lt 22, 3) := by decide +kernel
theorem own_d_jdk_35_method_24_code_12 : decode jdk_35_method_24_code 12 = .ok (.lload_n 0, 1) := by decide +kernel
theorem own_d_jdk_35_method_24_code_13 : decode jdk_35_method_24_code 13 = .ok (.ldc2_w 232, 3) := by decide +kernel
theorem own_d_jdk_35_method_24_code_16 : decode jdk_35_method_24_code 16 = .ok (.lcmp, 1) := by decide +kernel
theorem own_d_jdk_35_method_24_code_17 : decode jdk_35_method_24_code 17 = .ok (.ifCond .gt 14, 3) := by decide +kernel
theorem own_d_jdk_35_method_24_code_20 : decode jdk_35_method_24_code 20 = .ok (.getstatic 234, 3) := by decide +kernel
theorem own_d_jdk_35_method_24_code_23 : decode jdk_35_method_24_code 23 = .ok (.lload_n 0, 1) := by decide +kernel
theorem own_d_jdk_35_method_24_code_24 : decode jdk_35_method_24_code 24 = .ok (.l2i, 1) := by decide +kernel
theorem own_d_jdk_35_method_24_code_25 : decode jdk_35_method_24_code 25 = .ok (.sipush 128, 3) := by decide +kernel
theorem own_d_jdk_35_method_24_code_28 : decode jdk_35_method_24_code 28 = .ok (.iadd, 1) := by decide +kernel
theorem own_d_jdk_35_method_24_code_29 : decode jdk_35_method_24_code 29 = .ok (.aaload, 1) := by decide +kernel
theorem own_d_jdk_35_method_24_code_30 : decode jdk_35_method_24_code 30 = .ok (.areturn, 1) := by decide +kernel
theorem own_d_jdk_35_method_24_code_31 : decode jdk_35_method_24_code 31 = .ok (.new 1, 3) := by decide +kernel
theorem own_d_jdk_35_method_24_code_34 : decode jdk_35_method_24_code 34 = .ok (.dup, 1) := by decide +kernel
theorem own_d_jdk_35_method_24_code_35 : decode jdk_35_method_24_code 35 = .ok (.lload_n 0, 1) := by decide +kernel
theorem own_d_jdk_35_method_24_code_36 : decode jdk_35_method_24_code 36 = .ok (.invokespecial 240, 3) := by decide +kernel
theorem own_d_jdk_35_method_24_code_39 : decode jdk_35_method_24_code 39 = .ok (.areturn, 1) := by decide +kernel
theorem own_pn2 : plainFor (⟨"java/lang/Long", "valueOf", "(J)Ljava/lang/Long;"⟩ : MethodName) = true := by decide +kernel
theorem own_pd1 : parseMethodDescriptor "(J)V" = some ⟨[.long], none⟩ := by decide +kernel
def own_rm_valueOfJ_Q (Z : State) (p1 : Int64) (a_cacheJ : Addr) (h0 : Heap) (n0 : Nat) (v : Option Value) (h : Heap) (L : List Loc) : Prop := ∃ r : Addr, Fr n0 L ∧ v = some (.ref r) ∧ Keep h0 h [] ∧ Exa Z h r "java/lang/Long" ∧ Fld Z h r "java/lang/Long" "value" "J" (.long p1)
theorem own_rm_valueOfJ_ef (m : MethodId) (p1 : Int64) : entryFrame m #[(.long p1)] 3 = mkF m 0 #[.val (.long p1), .second, .unset] [] := by first | (simp [entryFrame, mkF, argsToLocals, Value.category]; done) | rfl
set_option maxRecDepth 65536 in
set_option maxHeartbeats 40000000 in
theorem own_rm_valueOfJ (l : Launch) (Z : State) (a0 : Array Value) (hw : ∀ d ∈ tables_1, d.before a0 Z = true) (ws : List Jvm.Cond) (p1 : Int64) (a_cacheJ : Addr) (h0 : Heap) (n0 : Nat) (Z0 : n0 ≤ h0.size) (O0 : Old Z n0 h0) (S_cacheJ : Sta Z Z.heap "java/lang/Long$LongCache" "cache" "[Ljava/lang/Long;" (.ref a_cacheJ)) (BxJ : own_BoxJ Z a_cacheJ) :
    MetFree l (⟨"java/lang/Long", "valueOf", "(J)Ljava/lang/Long;"⟩ : MethodName) (head1 (Jvm.Cond.code (⟨"java/lang/Long", "valueOf", "(J)Ljava/lang/Long;"⟩ : MethodName) jdk_35_method_24_code 3 (some (.object "java/lang/Long")) :: ws) ({ frames := 3, cells := 1, slots := 1, locals := 39 } : Room)) (fun a U => a = #[(.long p1)] ∧ Z.Warmed39 U.vm ∧ U.heap = h0) (fun _ _ _ _ _ => True) (fun _ U o U' => ∃ v L, o = .returned v ∧ own_rm_valueOfJ_Q Z p1 a_cacheJ h0 n0 v U'.heap L ∧ FrameEnd U o U' L ({ frames := 3, cells := 1, slots := 1, locals := 39 } : Room).cells ({ frames := 3, cells := 1, slots := 1, locals := 39 } : Room).slots) := by
  refine MetFree.of_bodySF own_pn2 hisR ?_
  intro p e s m args below meth c s₁ Bd hml0 hP hK
  obtain ⟨rfl, hZ, hh⟩ := hP
  have hx := Bd.exec
  have hby := Bd.bytes
  have hml : c.maxLocals = 3 := hml0
  have hlk := BodyLoose.notSynchronized Bd
  have hown : s.vm.findClass "java/lang/Long" = some m.cls := findClass_of_methodNamed Bd.named
  have hnm := (name_of_methodNamed Bd.named Bd.method).1
  have X0 : Stand p l e ({ frames := 3, cells := 1, slots := 1, locals := 39 } : Room) s m #[(.long p1)] below meth c s₁ [] 0 0 := Stand.of_body Bd
  have e0 : s₁.heap = h0 := by rw [← hh, Bd.state]; rfl
  have N0 := Fr.nil n0
  have Kp0 : Keep h0 h0 [] := Keep.refl _ _
  show own_Go p e below s (own_rm_valueOfJ_Q Z p1 a_cacheJ h0 n0) ({ frames := 3, cells := 1, slots := 1, locals := 39 } : Room).cells ({ frames := 3, cells := 1, slots := 1, locals := 39 } : Room).slots (s₁.setTop (entryFrame m #[(.long p1)] 3))
  rw [own_rm_valueOfJ_ef]
  show own_Go p e below s _ _ _ (s₁.setTop (mkF m 0 #[.val (.long p1), .second, .unset] []))
  refine own_st (fun _ k => XT.sipushV X0.here hx rfl (128 : Int32) (hb hby own_d_jdk_35_method_24_code_0) (by decide) k) ?_
  show own_Go p e below s _ _ _ (s₁.setTop (mkF m 3 #[.val (.long p1), .second, .unset] [(.int (128 : Int32))]))
  refine own_st (fun _ k => XS.istoreN X0.here hx rfl (hb hby own_d_jdk_35_method_24_code_3) rfl (l' := #[.val (.long p1), .second, .val (.int (128 : Int32))]) rfl k) ?_
  show own_Go p e below s _ _ _ (s₁.setTop (mkF m 4 #[.val (.long p1), .second, .val (.int (128 : Int32))] []))
  refine own_st (fun _ k => XT.lloadN X0.here hx rfl (hb hby own_d_jdk_35_method_24_code_4) rfl k) ?_
  show own_Go p e below s _ _ _ (s₁.setTop (mkF m 5 #[.val (.long p1), .second, .val (.int (128 : Int32))] [(.long p1)]))
  refine own_st (fun _ k => X0.ldc2J hx hown (mvT hZ (hw _ (List.mem_of_getElem? (i := 24) rfl))) rfl (hb hby own_d_jdk_35_method_24_code_5) k) ?_
  show own_Go p e below s _ _ _ (s₁.setTop (mkF m 8 #[.val (.long p1), .second, .val (.int (128 : Int32))] [(.long (-128 : Int64)), (.long p1)]))
  refine own_st (fun _ k => XT.lcmp X0.here hx rfl (hb hby own_d_jdk_35_method_24_code_8) rfl k) ?_
  show own_Go p e below s _ _ _ (s₁.setTop (mkF m 9 #[.val (.long p1), .second, .val (.int (128 : Int32))] [(.int (XT.cmpL p1 (-128 : Int64)))]))
  by_cases hc10 : p1 < (-128 : Int64)
  · refine own_st (fun _ k => XS.ifYes X0.here hx rfl (pc0 := 9) (pc' := 31) rfl (hb hby own_d_jdk_35_method_24_code_9) rfl (XT.ll_lt_t hc10) (by decide) (by decide) k) ?_
    show own_Go p e below s _ _ _ (s₁.setTop (mkF m 31 #[.val (.long p1), .second, .val (.int (128 : Int32))] []))
    obtain ⟨T11, h11, X11, e11, E11, A11, D11, -, st11⟩ := newO X0 hx hZ hown (hw _ (List.mem_of_getElem? (i := 25) rfl)) (hw _ (List.mem_of_getElem? (i := 26) rfl)) (hw _ (List.mem_of_getElem? (i := 22) rfl)) e0 (g := (mkF m 31 #[.val (.long p1), .second, .val (.int (128 : Int32))] [])) rfl (hb hby own_d_jdk_35_method_24_code_31) (by decide) (by decide)
    obtain ⟨b11, g11⟩ : ∃ z, z = h0.size := ⟨_, rfl⟩
    rw [← g11] at A11 D11 st11
    refine own_st st11 ?_
    have Zs12 : n0 ≤ h11.size := Nat.le_trans Z0 E11.1
    have Kp13 : Keep h0 h11 [] := Kp0.ext E11
    have g14 : n0 ≤ b11 := Nat.le_trans Z0 (Nat.le_of_eq g11.symm)
    have sz15 : h0.size ≤ b11 := Nat.le_trans Kp0.1 (Nat.le_of_eq g11.symm)
    have F16 : Fld Z h11 b11 "java/lang/Long" "value" "J" (.long (0 : Int64)) := D11 (Or.inr (hw _ (List.mem_of_getElem? (i := 39) rfl))) (ty := .long) (by decide)
    show own_Go p e below s _ _ _ (T11.setTop (mkF m 34 #[.val (.long p1), .second, .val (.int (128 : Int32))] [(.ref b11)]))
    refine own_st (fun _ k => XS.dup X11.here hx rfl (hb hby own_d_jdk_35_method_24_code_34) rfl rfl k) ?_
    show own_Go p e below s _ _ _ (T11.setTop (mkF m 35 #[.val (.long p1), .second, .val (.int (128 : Int32))] [(.ref b11), (.ref b11)]))
    refine own_st (fun _ k => XT.lloadN X11.here hx rfl (hb hby own_d_jdk_35_method_24_code_35) rfl k) ?_
    show own_Go p e below s _ _ _ (T11.setTop (mkF m 36 #[.val (.long p1), .second, .val (.int (128 : Int32))] [(.long p1), (.ref b11), (.ref b11)]))
    obtain ⟨_, _, ⟨T17, L17, k17, n17⟩, -, X17, ⟨Lc17, hQ17, l17, y17, z17⟩, st17⟩ := X11.specialBack hx (y := (⟨"java/lang/Long", "<init>", "(J)V"⟩ : MethodName)) rfl hown (mvT hZ (hw _ (List.mem_of_getElem? (i := 27) rfl))) (mvT hZ (hw _ (List.mem_of_getElem? (i := 28) rfl))) (mvT hZ (hw _ (List.mem_of_getElem? (i := 30) rfl))) (by decide) (backOf (W := 1) (own_rm_boxinitJ l Z a0 hw [] b11 p1 h11 n0 Zs12 A11 F16 g14) hZ (hw _ (List.mem_of_getElem? (i := 30) rfl)) (hw _ (List.mem_of_getElem? (i := 22) rfl)) (by decide) (by decide)) (g := (mkF m 36 #[.val (.long p1), .second, .val (.int (128 : Int32))] [(.long p1), (.ref b11), (.ref b11)])) rfl (by rw [hml]; rfl) (Steps.refl _) (a := b11) (argsL := [(.long p1)]) (rest := [(.ref b11)]) (lenOf own_pd1 rfl) rfl (by show 2 * 0 + _ ≤ _; exact Nat.le_of_eq rfl) (hb hby own_d_jdk_35_method_24_code_36) (fun _ _ => ⟨rfl, e11, (by decide : 1 + 0 ≤ _), (by decide : 1 + 0 ≤ _)⟩)
    dsimp only [Pt.U, Pt.locs, Pt.cells, Pt.slots] at X17 l17 y17 z17 st17 hQ17
    subst l17 y17 z17
    obtain ⟨N17q, rfl, K17, q18, q19⟩ := hQ17
    have N20 := Fr.app N0 N17q
    refine own_tr st17 ?_
    have Zs21 : n0 ≤ T17.heap.size := Nat.le_trans Zs12 K17.1
    have Kp22 : Keep h0 T17.heap [] := Kp13.trans K17 (allS (Or.inr sz15) all0)
    show own_Go p e below s _ _ _ (T17.setTop (mkF m 39 #[.val (.long p1), .second, .val (.int (128 : Int32))] [(.ref b11)]))
    refine own_retA X17 hx hlk Bd.returns rfl (hb hby own_d_jdk_35_method_24_code_39) (by decide) (by decide) ?_
    skip
    exact ⟨b11, N20, rfl, Kp22, q18, q19⟩
  · refine own_st (fun _ k => XS.ifNo X0.here hx rfl (hb hby own_d_jdk_35_method_24_code_9) rfl (XT.ll_lt_f hc10) k) ?_
    show own_Go p e below s _ _ _ (s₁.setTop (mkF m 12 #[.val (.long p1), .second, .val (.int (128 : Int32))] []))
    refine own_st (fun _ k => XT.lloadN X0.here hx rfl (hb hby own_d_jdk_35_method_24_code_12) rfl k) ?_
    show own_Go p e below s _ _ _ (s₁.setTop (mkF m 13 #[.val (.long p1), .second, .val (.int (128 : Int32))] [(.long p1)]))
    refine own_st (fun _ k => X0.ldc2J hx hown (mvT hZ (hw _ (List.mem_of_getElem? (i := 43) rfl))) rfl (hb hby own_d_jdk_35_method_24_code_13) k) ?_
    show own_Go p e below s _ _ _ (s₁.setTop (mkF m 16 #[.val (.long p1), .second, .val (.int (128 : Int32))] [(.long (127 : Int64)), (.long p1)]))
    refine own_st (fun _ k => XT.lcmp X0.here hx rfl (hb hby own_d_jdk_35_method_24_code_16) rfl k) ?_
    show own_Go p e below s _ _ _ (s₁.setTop (mkF m 17 #[.val (.long p1), .second, .val (.int (128 : Int32))] [(.int (XT.cmpL p1 (127 : Int64)))]))
    by_cases hc23 : (127 : Int64) < p1
    · refine own_st (fun _ k => XS.ifYes X0.here hx rfl (pc0 := 17) (pc' := 31) rfl (hb hby own_d_jdk_35_method_24_code_17) rfl (XT.ll_gt_t hc23) (by decide) (by decide) k) ?_
      show own_Go p e below s _ _ _ (s₁.setTop (mkF m 31 #[.val (.long p1), .second, .val (.int (128 : Int32))] []))
      obtain ⟨T24, h24, X24, e24, E24, A24, D24, -, st24⟩ := newO X0 hx hZ hown (hw _ (List.mem_of_getElem? (i := 25) rfl)) (hw _ (List.mem_of_getElem? (i := 26) rfl)) (hw _ (List.mem_of_getElem? (i := 22) rfl)) e0 (g := (mkF m 31 #[.val (.long p1), .second, .val (.int (128 : Int32))] [])) rfl (hb hby own_d_jdk_35_method_24_code_31) (by decide) (by decide)
      obtain ⟨b24, g24⟩ : ∃ z, z = h0.size := ⟨_, rfl⟩
      rw [← g24] at A24 D24 st24
      refine own_st st24 ?_
      have Zs25 : n0 ≤ h24.size := Nat.le_trans Z0 E24.1
      have Kp26 : Keep h0 h24 [] := Kp0.ext E24
      have g27 : n0 ≤ b24 := Nat.le_trans Z0 (Nat.le_of_eq g24.symm)
      have sz28 : h0.size ≤ b24 := Nat.le_trans Kp0.1 (Nat.le_of_eq g24.symm)
      have F29 : Fld Z h24 b24 "java/lang/Long" "value" "J" (.long (0 : Int64)) := D24 (Or.inr (hw _ (List.mem_of_getElem? (i := 39) rfl))) (ty := .long) (by decide)
      show own_Go p e below s _ _ _ (T24.setTop (mkF m 34 #[.val (.long p1), .second, .val (.int (128 : Int32))] [(.ref b24)]))
      refine own_st (fun _ k => XS.dup X24.here hx rfl (hb hby own_d_jdk_35_method_24_code_34) rfl rfl k) ?_
      show own_Go p e below s _ _ _ (T24.setTop (mkF m 35 #[.val (.long p1), .second, .val (.int (128 : Int32))] [(.ref b24), (.ref b24)]))
      refine own_st (fun _ k => XT.lloadN X24.here hx rfl (hb hby own_d_jdk_35_method_24_code_35) rfl k) ?_
      show own_Go p e below s _ _ _ (T24.setTop (mkF m 36 #[.val (.long p1), .second, .val (.int (128 : Int32))] [(.long p1), (.ref b24), (.ref b24)]))
      obtain ⟨_, _, ⟨T30, L30, k30, n30⟩, -, X30, ⟨Lc30, hQ30, l30, y30, z30⟩, st30⟩ := X24.specialBack hx (y := (⟨"java/lang/Long", "<init>", "(J)V"⟩ : MethodName)) rfl hown (mvT hZ (hw _ (List.mem_of_getElem? (i := 27) rfl))) (mvT hZ (hw _ (List.mem_of_getElem? (i := 28) rfl))) (mvT hZ (hw _ (List.mem_of_getElem? (i := 30) rfl))) (by decide) (backOf (W := 1) (own_rm_boxinitJ l Z a0 hw [] b24 p1 h24 n0 Zs25 A24 F29 g27) hZ (hw _ (List.mem_of_getElem? (i := 30) rfl)) (hw _ (List.mem_of_getElem? (i := 22) rfl)) (by decide) (by decide)) (g := (mkF m 36 #[.val (.long p1), .second, .val (.int (128 : Int32))] [(.long p1), (.ref b24), (.ref b24)])) rfl (by rw [hml]; rfl) (Steps.refl _) (a := b24) (argsL := [(.long p1)]) (rest := [(.ref b24)]) (lenOf own_pd1 rfl) rfl (by show 2 * 0 + _ ≤ _; exact Nat.le_of_eq rfl) (hb hby own_d_jdk_35_method_24_code_36) (fun _ _ => ⟨rfl, e24, (by decide : 1 + 0 ≤ _), (by decide : 1 + 0 ≤ _)⟩)
      dsimp only [Pt.U, Pt.locs, Pt.cells, Pt.slots] at X30 l30 y30 z30 st30 hQ30
      subst l30 y30 z30
      obtain ⟨N30q, rfl, K30, q31, q32⟩ := hQ30
      have N33 := Fr.app N0 N30q
      refine own_tr st30 ?_
      have Zs34 : n0 ≤ T30.heap.size := Nat.le_trans Zs25 K30.1
      have Kp35 : Keep h0 T30.heap [] := Kp26.trans K30 (allS (Or.inr sz28) all0)
      show own_Go p e below s _ _ _ (T30.setTop (mkF m 39 #[.val (.long p1), .second, .val (.int (128 : Int32))] [(.ref b24)]))
      refine own_retA X30 hx hlk Bd.returns rfl (hb hby own_d_jdk_35_method_24_code_39) (by decide) (by decide) ?_
      skip
      exact ⟨b24, N33, rfl, Kp35, q31, q32⟩
    · refine own_st (fun _ k => XS.ifNo X0.here hx rfl (hb hby own_d_jdk_35_method_24_code_17) rfl (XT.ll_gt_f hc23) k) ?_
      show own_Go p e below s _ _ _ (s₁.setTop (mkF m 20 #[.val (.long p1), .second, .val (.int (128 : Int32))] []))
      have F36 : Sta Z h0 "java/lang/Long$LongCache" "cache" "[Ljava/lang/Long;" (.ref a_cacheJ) := S_cacheJ.ext O0.2
      obtain ⟨T37, X37, e37, st37⟩ := getS2 X0 hx hZ hown (host := "") (Or.inl (hw _ (List.mem_of_getElem? (i := 44) rfl))) Via.refl e0 F36 (g := (mkF m 20 #[.val (.long p1), .second, .val (.int (128 : Int32))] [])) rfl (hb hby own_d_jdk_35_method_24_code_20)
      refine own_st st37 ?_
      show own_Go p e below s _ _ _ (T37.setTop (mkF m 23 #[.val (.long p1), .second, .val (.int (128 : Int32))] [(.ref a_cacheJ)]))
      refine own_st (fun _ k => XT.lloadN X37.here hx rfl (hb hby own_d_jdk_35_method_24_code_23) rfl k) ?_
      show own_Go p e below s _ _ _ (T37.setTop (mkF m 24 #[.val (.long p1), .second, .val (.int (128 : Int32))] [(.long p1), (.ref a_cacheJ)]))
      refine own_st (fun _ k => XT.l2i X37.here hx rfl (hb hby own_d_jdk_35_method_24_code_24) rfl k) ?_
      show own_Go p e below s _ _ _ (T37.setTop (mkF m 25 #[.val (.long p1), .second, .val (.int (128 : Int32))] [(.int (p1.toInt32)), (.ref a_cacheJ)]))
      refine own_st (fun _ k => XT.sipushV X37.here hx rfl (128 : Int32) (hb hby own_d_jdk_35_method_24_code_25) (by decide) k) ?_
      show own_Go p e below s _ _ _ (T37.setTop (mkF m 28 #[.val (.long p1), .second, .val (.int (128 : Int32))] [(.int (128 : Int32)), (.int (p1.toInt32)), (.ref a_cacheJ)]))
      refine own_st (fun _ k => XS.iadd X37.here hx rfl (hb hby own_d_jdk_35_method_24_code_28) rfl k) ?_
      show own_Go p e below s _ _ _ (T37.setTop (mkF m 29 #[.val (.long p1), .second, .val (.int (128 : Int32))] [(.int ((p1.toInt32) + (128 : Int32))), (.ref a_cacheJ)]))
      obtain ⟨hin0, hlt0⟩ := LongBox.place_okL p1 hc10 hc23
      have hv0 := LongBox.place_valL p1 hc10 hc23
      obtain ⟨cl0, Ar0, Sz0, Hj0⟩ := BxJ
      obtain ⟨r0, hat0, Er0, Fr0⟩ := Hj0 _ hin0
      refine own_st (fun _ k => X37.aaload hx (j := ((p1.toInt32) + (128 : Int32))) (v := .ref r0) (by rw [e37]; exact (Ar0.ext O0.2).1) (State.isArrayOf_alike hZ.alike Ar0.2.1) rfl Ar0.2.2 (by rw [Sz0]; exact hin0) hat0 (g := (mkF m 29 #[.val (.long p1), .second, .val (.int (128 : Int32))] [(.int ((p1.toInt32) + (128 : Int32))), (.ref a_cacheJ)])) rfl rfl (hb hby own_d_jdk_35_method_24_code_29) _ k) ?_
      have hv1 : Fld Z Z.heap r0 "java/lang/Long" "value" "J" (.long p1) := by rw [own_bkJ p1 hc10 hc23] at Fr0; exact Fr0
      show own_Go p e below s _ _ _ (T37.setTop (mkF m 30 #[.val (.long p1), .second, .val (.int (128 : Int32))] [(.ref r0)]))
      have F38 : Exa Z h0 r0 "java/lang/Long" := Er0.ext O0.2
      have F39 : Fld Z h0 r0 "java/lang/Long" "value" "J" (.long p1) := hv1.ext O0.2
      refine own_retA X37 hx hlk Bd.returns rfl (hb hby own_d_jdk_35_method_24_code_30) (by decide) (by decide) ?_
      rw [e37]
      exact ⟨r0, N0, rfl, Kp0, F38, F39⟩
theorem own_d_prog_103_method_1_code_0 : decode prog_103_method_1_code 0 = .ok (.aload_n 0, 1) := by decide +kernel
theorem own_d_prog_103_method_1_code_1 : decode prog_103_method_1_code 1 = .ok (.invokespecial 1, 3) := by decide +kernel
theorem own_d_prog_103_method_1_code_4 : decode prog_103_method_1_code 4 = .ok (.aload_n 0, 1) := by decide +kernel
theorem own_d_prog_103_method_1_code_5 : decode prog_103_method_1_code 5 = .ok (.lload_n 1, 1) := by decide +kernel
theorem own_d_prog_103_method_1_code_6 : decode prog_103_method_1_code 6 = .ok (.putfield 7, 3) := by decide +kernel
theorem own_d_prog_103_method_1_code_9 : decode prog_103_method_1_code 9 = .ok (.aload_n 0, 1) := by decide +kernel
theorem own_d_prog_103_method_1_code_10 : decode prog_103_method_1_code 10 = .ok (.lload_n 3, 1) := by decide +kernel
theorem own_d_prog_103_method_1_code_11 : decode prog_103_method_1_code 11 = .ok (.putfield 13, 3) := by decide +kernel
theorem own_d_prog_103_method_1_code_14 : decode prog_103_method_1_code 14 = .ok (.return_, 1) := by decide +kernel
theorem own_pn3 : plainFor (⟨"com/example/epoch/epoch/protocol/record/TimestampedOffset", "<init>", "(JJ)V"⟩ : MethodName) = true := by decide +kernel
def own_rm_init_Q (Z : State) (r : Addr) (q1 : Int64) (q2 : Int64) (h0 : Heap) (n0 : Nat) (v : Option Value) (h : Heap) (L : List Loc) : Prop := Fr n0 L ∧ v = none ∧ Keep h0 h [r] ∧ Exa Z h r "com/example/epoch/epoch/protocol/record/TimestampedOffset" ∧ Fld Z h r "com/example/epoch/epoch/protocol/record/TimestampedOffset" "timestamp" "J" (.long q1) ∧ Fld Z h r "com/example/epoch/epoch/protocol/record/TimestampedOffset" "offset" "J" (.long q2)
theorem own_rm_init_ef (m : MethodId) (r : Addr) (q1 : Int64) (q2 : Int64) : entryFrame m #[(.ref r), (.long q1), (.long q2)] 5 = mkF m 0 #[.val (.ref r), .val (.long q1), .second, .val (.long q2), .second] [] := by first | (simp [entryFrame, mkF, argsToLocals, Value.category]; done) | rfl
set_option maxRecDepth 65536 in
set_option maxHeartbeats 40000000 in
theorem own_rm_init (l : Launch) (Z : State) (a0 : Array Value) (hw : ∀ d ∈ tables_1, d.before a0 Z = true) (ws : List Jvm.Cond) (r : Addr) (q1 : Int64) (q2 : Int64) (h0 : Heap) (n0 : Nat) (Z0 : n0 ≤ h0.size) (E1 : Exa Z h0 r "com/example/epoch/epoch/protocol/record/TimestampedOffset") (F1 : Fld Z h0 r "com/example/epoch/epoch/protocol/record/TimestampedOffset" "timestamp" "J" (.long (0 : Int64))) (F2 : Fld Z h0 r "com/example/epoch/epoch/protocol/record/TimestampedOffset" "offset" "J" (.long (0 : Int64))) (g1 : n0 ≤ r) :
    MetFree l (⟨"com/example/epoch/epoch/protocol/record/TimestampedOffset", "<init>", "(JJ)V"⟩ : MethodName) (head1 (Jvm.Cond.code (⟨"com/example/epoch/epoch/protocol/record/TimestampedOffset", "<init>", "(JJ)V"⟩ : MethodName) prog_103_method_1_code 5 none :: ws) ({ frames := 1, cells := 0, slots := 0, locals := 12 } : Room)) (fun a U => a = #[(.ref r), (.long q1), (.long q2)] ∧ Z.Warmed39 U.vm ∧ U.heap = h0) (fun _ _ _ _ _ => True) (fun _ U o U' => ∃ v L, o = .returned v ∧ own_rm_init_Q Z r q1 q2 h0 n0 v U'.heap L ∧ FrameEnd U o U' L ({ frames := 1, cells := 0, slots := 0, locals := 12 } : Room).cells ({ frames := 1, cells := 0, slots := 0, locals := 12 } : Room).slots) := by
  refine MetFree.of_bodySF own_pn3 hisR ?_
  intro p e s m args below meth c s₁ Bd hml0 hP hK
  obtain ⟨rfl, hZ, hh⟩ := hP
  have hx := Bd.exec
  have hby := Bd.bytes
  have hml : c.maxLocals = 5 := hml0
  have hlk := BodyLoose.notSynchronized Bd
  have hown : s.vm.findClass "com/example/epoch/epoch/protocol/record/TimestampedOffset" = some m.cls := findClass_of_methodNamed Bd.named
  have hnm := (name_of_methodNamed Bd.named Bd.method).1
  have X0 : Stand p l e ({ frames := 1, cells := 0, slots := 0, locals := 12 } : Room) s m #[(.ref r), (.long q1), (.long q2)] below meth c s₁ [] 0 0 := Stand.of_body Bd
  have e0 : s₁.heap = h0 := by rw [← hh, Bd.state]; rfl
  have N0 := Fr.nil n0
  have Kp0 : Keep h0 h0 [r] := Keep.refl _ _
  show own_Go p e below s (own_rm_init_Q Z r q1 q2 h0 n0) ({ frames := 1, cells := 0, slots := 0, locals := 12 } : Room).cells ({ frames := 1, cells := 0, slots := 0, locals := 12 } : Room).slots (s₁.setTop (entryFrame m #[(.ref r), (.long q1), (.long q2)] 5))
  rw [own_rm_init_ef]
  show own_Go p e below s _ _ _ (s₁.setTop (mkF m 0 #[.val (.ref r), .val (.long q1), .second, .val (.long q2), .second] []))
  refine own_st (fun _ k => XS.aloadN X0.here hx rfl (hb hby own_d_prog_103_method_1_code_0) rfl rfl k) ?_
  show own_Go p e below s _ _ _ (s₁.setTop (mkF m 1 #[.val (.ref r), .val (.long q1), .second, .val (.long q2), .second] [(.ref r)]))
  obtain ⟨T40, X40, e40, st40⟩ := initO X0 hx hZ hown (hw _ (List.mem_of_getElem? (i := 6) rfl)) (hw _ (List.mem_of_getElem? (i := 7) rfl)) (hw _ (List.mem_of_getElem? (i := 8) rfl)) e0 (g := (mkF m 1 #[.val (.ref r), .val (.long q1), .second, .val (.long q2), .second] [(.ref r)])) rfl (by rw [hml]; rfl) rfl (hb hby own_d_prog_103_method_1_code_1) (by decide) (W := 0) (by show 2 * 0 + _ ≤ _; exact Nat.le_of_eq rfl) (by decide)
  refine own_st st40 ?_
  show own_Go p e below s _ _ _ (T40.setTop (mkF m 4 #[.val (.ref r), .val (.long q1), .second, .val (.long q2), .second] []))
  refine own_st (fun _ k => XS.aloadN X40.here hx rfl (hb hby own_d_prog_103_method_1_code_4) rfl rfl k) ?_
  show own_Go p e below s _ _ _ (T40.setTop (mkF m 5 #[.val (.ref r), .val (.long q1), .second, .val (.long q2), .second] [(.ref r)]))
  refine own_st (fun _ k => XT.lloadN X40.here hx rfl (hb hby own_d_prog_103_method_1_code_5) rfl k) ?_
  show own_Go p e below s _ _ _ (T40.setTop (mkF m 6 #[.val (.ref r), .val (.long q1), .second, .val (.long q2), .second] [(.long q1), (.ref r)]))
  obtain ⟨T41, h41, X41, e41, W41, st41⟩ := putF X40 hx hZ hown (host := "") (Or.inl (hw _ (List.mem_of_getElem? (i := 9) rfl))) Via.refl e40 F1 E1 (Or.inr ⟨(hw _ (List.mem_of_getElem? (i := 10) rfl)), rfl, hnm⟩) (hw _ (List.mem_of_getElem? (i := 1) rfl)) (ty := .long) (by decide) rfl rfl (g := (mkF m 6 #[.val (.ref r), .val (.long q1), .second, .val (.long q2), .second] [(.long q1), (.ref r)])) rfl rfl (hb hby own_d_prog_103_method_1_code_6)
  refine own_st st41 ?_
  have N42 := Fr.snoc X41 N0 g1
  have F43 : Fld Z h41 r "com/example/epoch/epoch/protocol/record/TimestampedOffset" "timestamp" "J" (.long q1) := F1.same W41
  have Zs44 : n0 ≤ h41.size := Nat.le_trans Z0 (Nat.le_of_eq W41.size.symm)
  have Kp45 : Keep h0 h41 [r] := Kp0.wr W41 (Or.inl (List.mem_of_getElem? (i := 0) rfl))
  show own_Go p e below s _ _ _ (T41.setTop (mkF m 9 #[.val (.ref r), .val (.long q1), .second, .val (.long q2), .second] []))
  refine own_st (fun _ k => XS.aloadN X41.here hx rfl (hb hby own_d_prog_103_method_1_code_9) rfl rfl k) ?_
  show own_Go p e below s _ _ _ (T41.setTop (mkF m 10 #[.val (.ref r), .val (.long q1), .second, .val (.long q2), .second] [(.ref r)]))
  refine own_st (fun _ k => XT.lloadN X41.here hx rfl (hb hby own_d_prog_103_method_1_code_10) rfl k) ?_
  show own_Go p e below s _ _ _ (T41.setTop (mkF m 11 #[.val (.ref r), .val (.long q1), .second, .val (.long q2), .second] [(.long q2), (.ref r)]))
  have F46 : Fld Z h41 r "com/example/epoch/epoch/protocol/record/TimestampedOffset" "offset" "J" (.long (0 : Int64)) := (F2.other W41 (Or.inr (slot_ne (Or.inr (hw _ (List.mem_of_getElem? (i := 12) rfl))) (Or.inr (hw _ (List.mem_of_getElem? (i := 10) rfl))) (by decide) (t := .long) (t' := .long) (by decide) (by decide))))
  have F47 : Exa Z h41 r "com/example/epoch/epoch/protocol/record/TimestampedOffset" := (E1.wr W41)
  obtain ⟨T48, h48, X48, e48, W48, st48⟩ := putF X41 hx hZ hown (host := "") (Or.inl (hw _ (List.mem_of_getElem? (i := 11) rfl))) Via.refl e41 F46 F47 (Or.inr ⟨(hw _ (List.mem_of_getElem? (i := 12) rfl)), rfl, hnm⟩) (hw _ (List.mem_of_getElem? (i := 1) rfl)) (ty := .long) (by decide) rfl rfl (g := (mkF m 11 #[.val (.ref r), .val (.long q1), .second, .val (.long q2), .second] [(.long q2), (.ref r)])) rfl rfl (hb hby own_d_prog_103_method_1_code_11)
  refine own_st st48 ?_
  have N49 := Fr.snoc X48 N42 g1
  have F50 : Fld Z h48 r "com/example/epoch/epoch/protocol/record/TimestampedOffset" "offset" "J" (.long q2) := F46.same W48
  have Zs51 : n0 ≤ h48.size := Nat.le_trans Zs44 (Nat.le_of_eq W48.size.symm)
  have Kp52 : Keep h0 h48 [r] := Kp45.wr W48 (Or.inl (List.mem_of_getElem? (i := 0) rfl))
  show own_Go p e below s _ _ _ (T48.setTop (mkF m 14 #[.val (.ref r), .val (.long q1), .second, .val (.long q2), .second] []))
  have F53 : Exa Z h48 r "com/example/epoch/epoch/protocol/record/TimestampedOffset" := (F47.wr W48)
  have F54 : Fld Z h48 r "com/example/epoch/epoch/protocol/record/TimestampedOffset" "timestamp" "J" (.long q1) := (F43.other W48 (Or.inr (slot_ne (Or.inr (hw _ (List.mem_of_getElem? (i := 10) rfl))) (Or.inr (hw _ (List.mem_of_getElem? (i := 12) rfl))) (by decide) (t := .long) (t' := .long) (by decide) (by decide))))
  refine own_ret0 X48 hx hlk Bd.returns (hb hby own_d_prog_103_method_1_code_14) (by decide) (by decide) ?_
  rw [e48]
  exact ⟨N49, rfl, Kp52, F53, F54, F50⟩
theorem own_d_prog_103_method_4_code_0 : decode prog_103_method_4_code 0 = .ok (.aload_n 1, 1) := by decide +kernel
theorem own_d_prog_103_method_4_code_1 : decode prog_103_method_4_code 1 = .ok (.instanceof 8, 3) := by decide +kernel
theorem own_d_prog_103_method_4_code_4 : decode prog_103_method_4_code 4 = .ok (.ifCond .ne 5, 3) := by decide +kernel
theorem own_d_prog_103_method_4_code_7 : decode prog_103_method_4_code 7 = .ok (.iconst 0, 1) := by decide +kernel
theorem own_d_prog_103_method_4_code_8 : decode prog_103_method_4_code 8 = .ok (.ireturn, 1) := by decide +kernel
theorem own_d_prog_103_method_4_code_9 : decode prog_103_method_4_code 9 = .ok (.aload_n 1, 1) := by decide +kernel
theorem own_d_prog_103_method_4_code_10 : decode prog_103_method_4_code 10 = .ok (.checkcast 8, 3) := by decide +kernel
theorem own_d_prog_103_method_4_code_13 : decode prog_103_method_4_code 13 = .ok (.astore_n 2, 1) := by decide +kernel
theorem own_d_prog_103_method_4_code_14 : decode prog_103_method_4_code 14 = .ok (.aload_n 0, 1) := by decide +kernel
theorem own_d_prog_103_method_4_code_15 : decode prog_103_method_4_code 15 = .ok (.getfield 7, 3) := by decide +kernel
theorem own_d_prog_103_method_4_code_18 : decode prog_103_method_4_code 18 = .ok (.aload_n 2, 1) := by decide +kernel
theorem own_d_prog_103_method_4_code_19 : decode prog_103_method_4_code 19 = .ok (.getfield 7, 3) := by decide +kernel
theorem own_d_prog_103_method_4_code_22 : decode prog_103_method_4_code 22 = .ok (.lcmp, 1) := by decide +kernel
theorem own_d_prog_103_method_4_code_23 : decode prog_103_method_4_code 23 = .ok (.ifCond .ne 19, 3) := by decide +kernel
theorem own_d_prog_103_method_4_code_26 : decode prog_103_method_4_code 26 = .ok (.aload_n 0, 1) := by decide +kernel
theorem own_d_prog_103_method_4_code_27 : decode prog_103_method_4_code 27 = .ok (.getfield 13, 3) := by decide +kernel
theorem own_d_prog_103_method_4_code_30 : decode prog_103_method_4_code 30 = .ok (.aload_n 2, 1) := by decide +kernel
theorem own_d_prog_103_method_4_code_31 : decode prog_103_method_4_code 31 = .ok (.getfield 13, 3) := by decide +kernel
theorem own_d_prog_103_method_4_code_34 : decode prog_103_method_4_code 34 = .ok (.lcmp, 1) := by decide +kernel
theorem own_d_prog_103_method_4_code_35 : decode prog_103_method_4_code 35 = .ok (.ifCond .ne 7, 3) := by decide +kernel
theorem own_d_prog_103_method_4_code_38 : decode prog_103_method_4_code 38 = .ok (.iconst 1, 1) := by decide +kernel
theorem own_d_prog_103_method_4_code_39 : decode prog_103_method_4_code 39 = .ok (.goto 4, 3) := by decide +kernel
theorem own_d_prog_103_method_4_code_42 : decode prog_103_method_4_code 42 = .ok (.iconst 0, 1) := by decide +kernel
theorem own_d_prog_103_method_4_code_43 : decode prog_103_method_4_code 43 = .ok (.ireturn, 1) := by decide +kernel
theorem own_pn4 : plainFor (⟨"com/example/epoch/epoch/protocol/record/TimestampedOffset", "equals", "(Ljava/lang/Object;)Z"⟩ : MethodName) = true := by decide +kernel
def own_rm_eqN_Q (Z : State) (r : Addr) (h0 : Heap) (n0 : Nat) (v : Option Value) (h : Heap) (L : List Loc) : Prop := Fr n0 L ∧ v = some (.int (0 : Int32)) ∧ h = h0
theorem own_rm_eqN_ef (m : MethodId) (r : Addr) : entryFrame m #[(.ref r), .null] 3 = mkF m 0 #[.val (.ref r), .val .null, .unset] [] := by first | (simp [entryFrame, mkF, argsToLocals, Value.category]; done) | rfl
set_option maxRecDepth 65536 in
set_option maxHeartbeats 40000000 in
theorem own_rm_eqN (l : Launch) (Z : State) (a0 : Array Value) (hw : ∀ d ∈ tables_1, d.before a0 Z = true) (ws : List Jvm.Cond) (r : Addr) (h0 : Heap) (n0 : Nat) (Z0 : n0 ≤ h0.size)  :
    MetFree l (⟨"com/example/epoch/epoch/protocol/record/TimestampedOffset", "equals", "(Ljava/lang/Object;)Z"⟩ : MethodName) (head1 (Jvm.Cond.code (⟨"com/example/epoch/epoch/protocol/record/TimestampedOffset", "equals", "(Ljava/lang/Object;)Z"⟩ : MethodName) prog_103_method_4_code 3 (some .boolean) :: ws) ({ frames := 0, cells := 0, slots := 0, locals := 0 } : Room)) (fun a U => a = #[(.ref r), .null] ∧ Z.Warmed39 U.vm ∧ U.heap = h0) (fun _ _ _ _ _ => True) (fun _ U o U' => ∃ v L, o = .returned v ∧ own_rm_eqN_Q Z r h0 n0 v U'.heap L ∧ FrameEnd U o U' L ({ frames := 0, cells := 0, slots := 0, locals := 0 } : Room).cells ({ frames := 0, cells := 0, slots := 0, locals := 0 } : Room).slots) := by
  refine MetFree.of_bodySF own_pn4 hisR ?_
  intro p e s m args below meth c s₁ Bd hml0 hP hK
  obtain ⟨rfl, hZ, hh⟩ := hP
  have hx := Bd.exec
  have hby := Bd.bytes
  have hml : c.maxLocals = 3 := hml0
  have hlk := BodyLoose.notSynchronized Bd
  have hown : s.vm.findClass "com/example/epoch/epoch/protocol/record/TimestampedOffset" = some m.cls := findClass_of_methodNamed Bd.named
  have hnm := (name_of_methodNamed Bd.named Bd.method).1
  have X0 : Stand p l e ({ frames := 0, cells := 0, slots := 0, locals := 0 } : Room) s m #[(.ref r), .null] below meth c s₁ [] 0 0 := Stand.of_body Bd
  have e0 : s₁.heap = h0 := by rw [← hh, Bd.state]; rfl
  have N0 := Fr.nil n0
  show own_Go p e below s (own_rm_eqN_Q Z r h0 n0) ({ frames := 0, cells := 0, slots := 0, locals := 0 } : Room).cells ({ frames := 0, cells := 0, slots := 0, locals := 0 } : Room).slots (s₁.setTop (entryFrame m #[(.ref r), .null] 3))
  rw [own_rm_eqN_ef]
  show own_Go p e below s _ _ _ (s₁.setTop (mkF m 0 #[.val (.ref r), .val .null, .unset] []))
  refine own_st (fun _ k => XS.aloadN X0.here hx rfl (hb hby own_d_prog_103_method_4_code_0) rfl rfl k) ?_
  show own_Go p e below s _ _ _ (s₁.setTop (mkF m 1 #[.val (.ref r), .val .null, .unset] [.null]))
  refine own_st (Jvm.Stand.instanceofNull X0 hx (g := (mkF m 1 #[.val (.ref r), .val .null, .unset] [.null])) rfl rfl (hb hby own_d_prog_103_method_4_code_1)) ?_
  show own_Go p e below s _ _ _ (s₁.setTop (mkF m 4 #[.val (.ref r), .val .null, .unset] [(.int (0 : Int32))]))
  refine own_st (fun _ k => XS.ifNo X0.here hx rfl (hb hby own_d_prog_103_method_4_code_4) rfl (XT.i0_ne_f (by decide)) k) ?_
  show own_Go p e below s _ _ _ (s₁.setTop (mkF m 7 #[.val (.ref r), .val .null, .unset] []))
  refine own_st (fun _ k => XT.iconstV X0.here hx rfl (0 : Int32) (hb hby own_d_prog_103_method_4_code_7) (by decide) k) ?_
  show own_Go p e below s _ _ _ (s₁.setTop (mkF m 8 #[.val (.ref r), .val .null, .unset] [(.int (0 : Int32))]))
  refine own_retN X0 hx hlk Bd.returns (t := .boolean) (z' := (0 : Int32)) (by simp) (by decide) (hb hby own_d_prog_103_method_4_code_8) (by decide) (by decide) ?_
  rw [e0]
  exact ⟨N0, rfl, rfl⟩
def own_rm_eqL_Q (Z : State) (r : Addr) (oo : Addr) (h0 : Heap) (n0 : Nat) (v : Option Value) (h : Heap) (L : List Loc) : Prop := Fr n0 L ∧ v = some (.int (0 : Int32)) ∧ h = h0
theorem own_rm_eqL_ef (m : MethodId) (r : Addr) (oo : Addr) : entryFrame m #[(.ref r), (.ref oo)] 3 = mkF m 0 #[.val (.ref r), .val (.ref oo), .unset] [] := by first | (simp [entryFrame, mkF, argsToLocals, Value.category]; done) | rfl
set_option maxRecDepth 65536 in
set_option maxHeartbeats 40000000 in
theorem own_rm_eqL (l : Launch) (Z : State) (a0 : Array Value) (hw : ∀ d ∈ tables_1, d.before a0 Z = true) (ws : List Jvm.Cond) (r : Addr) (oo : Addr) (h0 : Heap) (n0 : Nat) (Z0 : n0 ≤ h0.size) (E1 : Exa Z h0 oo "java/lang/Long") :
    MetFree l (⟨"com/example/epoch/epoch/protocol/record/TimestampedOffset", "equals", "(Ljava/lang/Object;)Z"⟩ : MethodName) (head1 (Jvm.Cond.code (⟨"com/example/epoch/epoch/protocol/record/TimestampedOffset", "equals", "(Ljava/lang/Object;)Z"⟩ : MethodName) prog_103_method_4_code 3 (some .boolean) :: ws) ({ frames := 0, cells := 0, slots := 0, locals := 0 } : Room)) (fun a U => a = #[(.ref r), (.ref oo)] ∧ Z.Warmed39 U.vm ∧ U.heap = h0) (fun _ _ _ _ _ => True) (fun _ U o U' => ∃ v L, o = .returned v ∧ own_rm_eqL_Q Z r oo h0 n0 v U'.heap L ∧ FrameEnd U o U' L ({ frames := 0, cells := 0, slots := 0, locals := 0 } : Room).cells ({ frames := 0, cells := 0, slots := 0, locals := 0 } : Room).slots) := by
  refine MetFree.of_bodySF own_pn4 hisR ?_
  intro p e s m args below meth c s₁ Bd hml0 hP hK
  obtain ⟨rfl, hZ, hh⟩ := hP
  have hx := Bd.exec
  have hby := Bd.bytes
  have hml : c.maxLocals = 3 := hml0
  have hlk := BodyLoose.notSynchronized Bd
  have hown : s.vm.findClass "com/example/epoch/epoch/protocol/record/TimestampedOffset" = some m.cls := findClass_of_methodNamed Bd.named
  have hnm := (name_of_methodNamed Bd.named Bd.method).1
  have X0 : Stand p l e ({ frames := 0, cells := 0, slots := 0, locals := 0 } : Room) s m #[(.ref r), (.ref oo)] below meth c s₁ [] 0 0 := Stand.of_body Bd
  have e0 : s₁.heap = h0 := by rw [← hh, Bd.state]; rfl
  have N0 := Fr.nil n0
  show own_Go p e below s (own_rm_eqL_Q Z r oo h0 n0) ({ frames := 0, cells := 0, slots := 0, locals := 0 } : Room).cells ({ frames := 0, cells := 0, slots := 0, locals := 0 } : Room).slots (s₁.setTop (entryFrame m #[(.ref r), (.ref oo)] 3))
  rw [own_rm_eqL_ef]
  show own_Go p e below s _ _ _ (s₁.setTop (mkF m 0 #[.val (.ref r), .val (.ref oo), .unset] []))
  refine own_st (fun _ k => XS.aloadN X0.here hx rfl (hb hby own_d_prog_103_method_4_code_0) rfl rfl k) ?_
  show own_Go p e below s _ _ _ (s₁.setTop (mkF m 1 #[.val (.ref r), .val (.ref oo), .unset] [(.ref oo)]))
  obtain ⟨T56, X56, e56, st56⟩ := instNo X0 hx hZ hown (hw _ (List.mem_of_getElem? (i := 18) rfl)) e0 E1 (own_no (hw _ (List.mem_of_getElem? (i := 40) rfl)) (hw _ (List.mem_of_getElem? (i := 1) rfl)) (NS.step (hw _ (List.mem_of_getElem? (i := 40) rfl)) (NS.step (hw _ (List.mem_of_getElem? (i := 41) rfl)) (own_NSroot (hw _ (List.mem_of_getElem? (i := 42) rfl)) (hw _ (List.mem_of_getElem? (i := 1) rfl)) (by decide)) (by decide)) (by decide)) (by decide)) (g := (mkF m 1 #[.val (.ref r), .val (.ref oo), .unset] [(.ref oo)])) rfl rfl (hb hby own_d_prog_103_method_4_code_1)
  refine own_st st56 ?_
  show own_Go p e below s _ _ _ (T56.setTop (mkF m 4 #[.val (.ref r), .val (.ref oo), .unset] [(.int (0 : Int32))]))
  refine own_st (fun _ k => XS.ifNo X56.here hx rfl (hb hby own_d_prog_103_method_4_code_4) rfl (XT.i0_ne_f (by decide)) k) ?_
  show own_Go p e below s _ _ _ (T56.setTop (mkF m 7 #[.val (.ref r), .val (.ref oo), .unset] []))
  refine own_st (fun _ k => XT.iconstV X56.here hx rfl (0 : Int32) (hb hby own_d_prog_103_method_4_code_7) (by decide) k) ?_
  show own_Go p e below s _ _ _ (T56.setTop (mkF m 8 #[.val (.ref r), .val (.ref oo), .unset] [(.int (0 : Int32))]))
  refine own_retN X56 hx hlk Bd.returns (t := .boolean) (z' := (0 : Int32)) (by simp) (by decide) (hb hby own_d_prog_103_method_4_code_8) (by decide) (by decide) ?_
  rw [e56]
  exact ⟨N0, rfl, rfl⟩
def own_rm_eqA_Q (Z : State) (r : Addr) (oo : Addr) (q1 : Int64) (q2 : Int64) (q3 : Int64) (q4 : Int64) (h0 : Heap) (n0 : Nat) (v : Option Value) (h : Heap) (L : List Loc) : Prop := Fr n0 L ∧ v = some (.int (if q1 = q3 then (if q2 = q4 then (1 : Int32) else 0) else 0)) ∧ h = h0
theorem own_rm_eqA_ef (m : MethodId) (r : Addr) (oo : Addr) : entryFrame m #[(.ref r), (.ref oo)] 3 = mkF m 0 #[.val (.ref r), .val (.ref oo), .unset] [] := by first | (simp [entryFrame, mkF, argsToLocals, Value.category]; done) | rfl
set_option maxRecDepth 65536 in
set_option maxHeartbeats 40000000 in
theorem own_rm_eqA (l : Launch) (Z : State) (a0 : Array Value) (hw : ∀ d ∈ tables_1, d.before a0 Z = true) (ws : List Jvm.Cond) (r : Addr) (oo : Addr) (q1 : Int64) (q2 : Int64) (q3 : Int64) (q4 : Int64) (h0 : Heap) (n0 : Nat) (Z0 : n0 ≤ h0.size) (E1 : Exa Z h0 oo "com/example/epoch/epoch/protocol/record/TimestampedOffset") (F1 : Fld Z h0 r "com/example/epoch/epoch/protocol/record/TimestampedOffset" "timestamp" "J" (.long q1)) (F2 : Fld Z h0 r "com/example/epoch/epoch/protocol/record/TimestampedOffset" "offset" "J" (.long q2)) (F3 : Fld Z h0 oo "com/example/epoch/epoch/protocol/record/TimestampedOffset" "timestamp" "J" (.long q3)) (F4 : Fld Z h0 oo "com/example/epoch/epoch/protocol/record/TimestampedOffset" "offset" "J" (.long q4)) :
    MetFree l (⟨"com/example/epoch/epoch/protocol/record/TimestampedOffset", "equals", "(Ljava/lang/Object;)Z"⟩ : MethodName) (head1 (Jvm.Cond.code (⟨"com/example/epoch/epoch/protocol/record/TimestampedOffset", "equals", "(Ljava/lang/Object;)Z"⟩ : MethodName) prog_103_method_4_code 3 (some .boolean) :: ws) ({ frames := 0, cells := 0, slots := 0, locals := 0 } : Room)) (fun a U => a = #[(.ref r), (.ref oo)] ∧ Z.Warmed39 U.vm ∧ U.heap = h0) (fun _ _ _ _ _ => True) (fun _ U o U' => ∃ v L, o = .returned v ∧ own_rm_eqA_Q Z r oo q1 q2 q3 q4 h0 n0 v U'.heap L ∧ FrameEnd U o U' L ({ frames := 0, cells := 0, slots := 0, locals := 0 } : Room).cells ({ frames := 0, cells := 0, slots := 0, locals := 0 } : Room).slots) := by
  refine MetFree.of_bodySF own_pn4 hisR ?_
  intro p e s m args below meth c s₁ Bd hml0 hP hK
  obtain ⟨rfl, hZ, hh⟩ := hP
  have hx := Bd.exec
  have hby := Bd.bytes
  have hml : c.maxLocals = 3 := hml0
  have hlk := BodyLoose.notSynchronized Bd
  have hown : s.vm.findClass "com/example/epoch/epoch/protocol/record/TimestampedOffset" = some m.cls := findClass_of_methodNamed Bd.named
  have hnm := (name_of_methodNamed Bd.named Bd.method).1
  have X0 : Stand p l e ({ frames := 0, cells := 0, slots := 0, locals := 0 } : Room) s m #[(.ref r), (.ref oo)] below meth c s₁ [] 0 0 := Stand.of_body Bd
  have e0 : s₁.heap = h0 := by rw [← hh, Bd.state]; rfl
  have N0 := Fr.nil n0
  show own_Go p e below s (own_rm_eqA_Q Z r oo q1 q2 q3 q4 h0 n0) ({ frames := 0, cells := 0, slots := 0, locals := 0 } : Room).cells ({ frames := 0, cells := 0, slots := 0, locals := 0 } : Room).slots (s₁.setTop (entryFrame m #[(.ref r), (.ref oo)] 3))
  rw [own_rm_eqA_ef]
  show own_Go p e below s _ _ _ (s₁.setTop (mkF m 0 #[.val (.ref r), .val (.ref oo), .unset] []))
  refine own_st (fun _ k => XS.aloadN X0.here hx rfl (hb hby own_d_prog_103_method_4_code_0) rfl rfl k) ?_
  show own_Go p e below s _ _ _ (s₁.setTop (mkF m 1 #[.val (.ref r), .val (.ref oo), .unset] [(.ref oo)]))
  obtain ⟨T57, X57, e57, st57⟩ := instY X0 hx hZ hown (hw _ (List.mem_of_getElem? (i := 18) rfl)) e0 (Ins.self E1) (g := (mkF m 1 #[.val (.ref r), .val (.ref oo), .unset] [(.ref oo)])) rfl rfl (hb hby own_d_prog_103_method_4_code_1)
  refine own_st st57 ?_
  show own_Go p e below s _ _ _ (T57.setTop (mkF m 4 #[.val (.ref r), .val (.ref oo), .unset] [(.int (1 : Int32))]))
  refine own_st (fun _ k => XS.ifYes X57.here hx rfl (pc0 := 4) (pc' := 9) rfl (hb hby own_d_prog_103_method_4_code_4) rfl (XT.i0_ne_t (by decide)) (by decide) (by decide) k) ?_
  show own_Go p e below s _ _ _ (T57.setTop (mkF m 9 #[.val (.ref r), .val (.ref oo), .unset] []))
  refine own_st (fun _ k => XS.aloadN X57.here hx rfl (hb hby own_d_prog_103_method_4_code_9) rfl rfl k) ?_
  show own_Go p e below s _ _ _ (T57.setTop (mkF m 10 #[.val (.ref r), .val (.ref oo), .unset] [(.ref oo)]))
  obtain ⟨T58, X58, e58, st58⟩ := castY X57 hx hZ hown (hw _ (List.mem_of_getElem? (i := 18) rfl)) e57 (Ins.self E1) (g := (mkF m 10 #[.val (.ref r), .val (.ref oo), .unset] [(.ref oo)])) rfl rfl (hb hby own_d_prog_103_method_4_code_10)
  refine own_st st58 ?_
  show own_Go p e below s _ _ _ (T58.setTop (mkF m 13 #[.val (.ref r), .val (.ref oo), .unset] [(.ref oo)]))
  refine own_st (fun _ k => XS.astoreN X58.here hx rfl (hb hby own_d_prog_103_method_4_code_13) rfl rfl (l' := #[.val (.ref r), .val (.ref oo), .val (.ref oo)]) rfl k) ?_
  show own_Go p e below s _ _ _ (T58.setTop (mkF m 14 #[.val (.ref r), .val (.ref oo), .val (.ref oo)] []))
  refine own_st (fun _ k => XS.aloadN X58.here hx rfl (hb hby own_d_prog_103_method_4_code_14) rfl rfl k) ?_
  show own_Go p e below s _ _ _ (T58.setTop (mkF m 15 #[.val (.ref r), .val (.ref oo), .val (.ref oo)] [(.ref r)]))
  obtain ⟨T59, X59, e59, st59⟩ := getF X58 hx hZ hown (host := "") (Or.inl (hw _ (List.mem_of_getElem? (i := 9) rfl))) Via.refl e58 F1 (g := (mkF m 15 #[.val (.ref r), .val (.ref oo), .val (.ref oo)] [(.ref r)])) rfl rfl (hb hby own_d_prog_103_method_4_code_15)
  refine own_st st59 ?_
  show own_Go p e below s _ _ _ (T59.setTop (mkF m 18 #[.val (.ref r), .val (.ref oo), .val (.ref oo)] [(.long q1)]))
  refine own_st (fun _ k => XS.aloadN X59.here hx rfl (hb hby own_d_prog_103_method_4_code_18) rfl rfl k) ?_
  show own_Go p e below s _ _ _ (T59.setTop (mkF m 19 #[.val (.ref r), .val (.ref oo), .val (.ref oo)] [(.ref oo), (.long q1)]))
  obtain ⟨T60, X60, e60, st60⟩ := getF X59 hx hZ hown (host := "") (Or.inl (hw _ (List.mem_of_getElem? (i := 9) rfl))) Via.refl e59 F3 (g := (mkF m 19 #[.val (.ref r), .val (.ref oo), .val (.ref oo)] [(.ref oo), (.long q1)])) rfl rfl (hb hby own_d_prog_103_method_4_code_19)
  refine own_st st60 ?_
  show own_Go p e below s _ _ _ (T60.setTop (mkF m 22 #[.val (.ref r), .val (.ref oo), .val (.ref oo)] [(.long q3), (.long q1)]))
  refine own_st (fun _ k => XT.lcmp X60.here hx rfl (hb hby own_d_prog_103_method_4_code_22) rfl k) ?_
  show own_Go p e below s _ _ _ (T60.setTop (mkF m 23 #[.val (.ref r), .val (.ref oo), .val (.ref oo)] [(.int (XT.cmpL q1 q3))]))
  by_cases hc61 : q1 = q3
  · refine own_st (fun _ k => XS.ifNo X60.here hx rfl (hb hby own_d_prog_103_method_4_code_23) rfl (XT.ll_ne_f hc61) k) ?_
    show own_Go p e below s _ _ _ (T60.setTop (mkF m 26 #[.val (.ref r), .val (.ref oo), .val (.ref oo)] []))
    refine own_st (fun _ k => XS.aloadN X60.here hx rfl (hb hby own_d_prog_103_method_4_code_26) rfl rfl k) ?_
    show own_Go p e below s _ _ _ (T60.setTop (mkF m 27 #[.val (.ref r), .val (.ref oo), .val (.ref oo)] [(.ref r)]))
    obtain ⟨T62, X62, e62, st62⟩ := getF X60 hx hZ hown (host := "") (Or.inl (hw _ (List.mem_of_getElem? (i := 11) rfl))) Via.refl e60 F2 (g := (mkF m 27 #[.val (.ref r), .val (.ref oo), .val (.ref oo)] [(.ref r)])) rfl rfl (hb hby own_d_prog_103_method_4_code_27)
    refine own_st st62 ?_
    show own_Go p e below s _ _ _ (T62.setTop (mkF m 30 #[.val (.ref r), .val (.ref oo), .val (.ref oo)] [(.long q2)]))
    refine own_st (fun _ k => XS.aloadN X62.here hx rfl (hb hby own_d_prog_103_method_4_code_30) rfl rfl k) ?_
    show own_Go p e below s _ _ _ (T62.setTop (mkF m 31 #[.val (.ref r), .val (.ref oo), .val (.ref oo)] [(.ref oo), (.long q2)]))
    obtain ⟨T63, X63, e63, st63⟩ := getF X62 hx hZ hown (host := "") (Or.inl (hw _ (List.mem_of_getElem? (i := 11) rfl))) Via.refl e62 F4 (g := (mkF m 31 #[.val (.ref r), .val (.ref oo), .val (.ref oo)] [(.ref oo), (.long q2)])) rfl rfl (hb hby own_d_prog_103_method_4_code_31)
    refine own_st st63 ?_
    show own_Go p e below s _ _ _ (T63.setTop (mkF m 34 #[.val (.ref r), .val (.ref oo), .val (.ref oo)] [(.long q4), (.long q2)]))
    refine own_st (fun _ k => XT.lcmp X63.here hx rfl (hb hby own_d_prog_103_method_4_code_34) rfl k) ?_
    show own_Go p e below s _ _ _ (T63.setTop (mkF m 35 #[.val (.ref r), .val (.ref oo), .val (.ref oo)] [(.int (XT.cmpL q2 q4))]))
    by_cases hc64 : q2 = q4
    · refine own_st (fun _ k => XS.ifNo X63.here hx rfl (hb hby own_d_prog_103_method_4_code_35) rfl (XT.ll_ne_f hc64) k) ?_
      show own_Go p e below s _ _ _ (T63.setTop (mkF m 38 #[.val (.ref r), .val (.ref oo), .val (.ref oo)] []))
      refine own_st (fun _ k => XT.iconstV X63.here hx rfl (1 : Int32) (hb hby own_d_prog_103_method_4_code_38) (by decide) k) ?_
      show own_Go p e below s _ _ _ (T63.setTop (mkF m 39 #[.val (.ref r), .val (.ref oo), .val (.ref oo)] [(.int (1 : Int32))]))
      refine own_st (fun _ k => XS.goto X63.here hx rfl (pc0 := 39) (pc' := 43) rfl (hb hby own_d_prog_103_method_4_code_39) (by decide) (by decide) k) ?_
      show own_Go p e below s _ _ _ (T63.setTop (mkF m 43 #[.val (.ref r), .val (.ref oo), .val (.ref oo)] [(.int (1 : Int32))]))
      refine own_retN X63 hx hlk Bd.returns (t := .boolean) (z' := (1 : Int32)) (by simp) (by decide) (hb hby own_d_prog_103_method_4_code_43) (by decide) (by decide) ?_
      rw [e63]
      exact ⟨N0, (by rw [if_pos hc61, if_pos hc64]), rfl⟩
    · refine own_st (fun _ k => XS.ifYes X63.here hx rfl (pc0 := 35) (pc' := 42) rfl (hb hby own_d_prog_103_method_4_code_35) rfl (XT.ll_ne_t hc64) (by decide) (by decide) k) ?_
      show own_Go p e below s _ _ _ (T63.setTop (mkF m 42 #[.val (.ref r), .val (.ref oo), .val (.ref oo)] []))
      refine own_st (fun _ k => XT.iconstV X63.here hx rfl (0 : Int32) (hb hby own_d_prog_103_method_4_code_42) (by decide) k) ?_
      show own_Go p e below s _ _ _ (T63.setTop (mkF m 43 #[.val (.ref r), .val (.ref oo), .val (.ref oo)] [(.int (0 : Int32))]))
      refine own_retN X63 hx hlk Bd.returns (t := .boolean) (z' := (0 : Int32)) (by simp) (by decide) (hb hby own_d_prog_103_method_4_code_43) (by decide) (by decide) ?_
      rw [e63]
      exact ⟨N0, (by rw [if_pos hc61, if_neg hc64]), rfl⟩
  · refine own_st (fun _ k => XS.ifYes X60.here hx rfl (pc0 := 23) (pc' := 42) rfl (hb hby own_d_prog_103_method_4_code_23) rfl (XT.ll_ne_t hc61) (by decide) (by decide) k) ?_
    show own_Go p e below s _ _ _ (T60.setTop (mkF m 42 #[.val (.ref r), .val (.ref oo), .val (.ref oo)] []))
    refine own_st (fun _ k => XT.iconstV X60.here hx rfl (0 : Int32) (hb hby own_d_prog_103_method_4_code_42) (by decide) k) ?_
    show own_Go p e below s _ _ _ (T60.setTop (mkF m 43 #[.val (.ref r), .val (.ref oo), .val (.ref oo)] [(.int (0 : Int32))]))
    refine own_retN X60 hx hlk Bd.returns (t := .boolean) (z' := (0 : Int32)) (by simp) (by decide) (hb hby own_d_prog_103_method_4_code_43) (by decide) (by decide) ?_
    rw [e60]
    exact ⟨N0, (by rw [if_neg hc61]), rfl⟩
theorem own_pn5 : plainFor (⟨"com/example/epoch/epoch/protocol/record/TimestampedOffsetEqualsPinLaw", "law", "(JJJJI)Z"⟩ : MethodName) = true := by decide +kernel
theorem own_pd2 : parseMethodDescriptor "(JJ)V" = some ⟨[.long, .long], none⟩ := by decide +kernel
theorem own_pd3 : parseMethodDescriptor "(Ljava/lang/Object;)Z" = some ⟨[(.object "java/lang/Object")], some .boolean⟩ := by decide +kernel
theorem own_pd4 : parseMethodDescriptor "(J)Ljava/lang/Long;" = some ⟨[.long], some (.object "java/lang/Long")⟩ := by decide +kernel
def own_law_Q (Z : State) (n0 : Nat) (v : Option Value) (h : Heap) (L : List Loc) : Prop := Fr n0 L ∧ v = some (.int 1)
theorem own_law_ef (m : MethodId) (p1 : Int64) (p2 : Int64) (p3 : Int64) (p4 : Int64) (p5 : Int32) : entryFrame m #[(.long p1), (.long p2), (.long p3), (.long p4), (.int p5)] maxLocals = mkF m 0 #[.val (.long p1), .second, .val (.long p2), .second, .val (.long p3), .second, .val (.long p4), .second, .val (.int p5), .unset, .unset, .unset, .unset, .unset, .unset, .unset, .unset, .unset, .unset, .unset] [] := by first | (simp [entryFrame, mkF, argsToLocals, Value.category, maxLocals]; done) | rfl
set_option maxRecDepth 65536 in
set_option maxHeartbeats 40000000 in
theorem own_law (l : Launch) (Z : State) (a0 : Array Value) (hw : ∀ d ∈ tables_1, d.before a0 Z = true) (ws : List Jvm.Cond) (p1 : Int64) (p2 : Int64) (p3 : Int64) (p4 : Int64) (p5 : Int32) (a_cacheJ : Addr) (h0 : Heap) (n0 : Nat) (Z0 : n0 ≤ h0.size) (O0 : Old Z n0 h0) (S_cacheJ : Sta Z Z.heap "java/lang/Long$LongCache" "cache" "[Ljava/lang/Long;" (.ref a_cacheJ)) (BxJ : own_BoxJ Z a_cacheJ) :
    MetFree l x (head1 (Jvm.Cond.code x code maxLocals ret :: ws) room_1) (fun a U => a = #[(.long p1), (.long p2), (.long p3), (.long p4), (.int p5)] ∧ Z.Warmed39 U.vm ∧ U.heap = h0) (fun _ _ _ _ _ => True) (fun _ U o U' => ∃ v L, o = .returned v ∧ own_law_Q Z n0 v U'.heap L ∧ FrameEnd U o U' L 16 128) := by
  refine MetFree.of_bodySF own_pn5 hisR ?_
  intro p e s m args below meth c s₁ Bd hml0 hP hK
  obtain ⟨rfl, hZ, hh⟩ := hP
  have hx := Bd.exec
  have hby := Bd.bytes
  have hml : c.maxLocals = 20 := hml0
  have hlk := BodyLoose.notSynchronized Bd
  have hown : s.vm.findClass "com/example/epoch/epoch/protocol/record/TimestampedOffsetEqualsPinLaw" = some m.cls := findClass_of_methodNamed Bd.named
  have hnm := (name_of_methodNamed Bd.named Bd.method).1
  have X0 : Stand p l e room_1 s m #[(.long p1), (.long p2), (.long p3), (.long p4), (.int p5)] below meth c s₁ [] 0 0 := Stand.of_body Bd
  have e0 : s₁.heap = h0 := by rw [← hh, Bd.state]; rfl
  have N0 := Fr.nil n0
  show own_Go p e below s (own_law_Q Z n0) 16 128 (s₁.setTop (entryFrame m #[(.long p1), (.long p2), (.long p3), (.long p4), (.int p5)] maxLocals))
  rw [own_law_ef]
  show own_Go p e below s _ _ _ (s₁.setTop (mkF m 0 #[.val (.long p1), .second, .val (.long p2), .second, .val (.long p3), .second, .val (.long p4), .second, .val (.int p5), .unset, .unset, .unset, .unset, .unset, .unset, .unset, .unset, .unset, .unset, .unset] []))
  refine own_st (fun _ k => XS.iload X0.here hx rfl (hb hby at_0) rfl k) ?_
  show own_Go p e below s _ _ _ (s₁.setTop (mkF m 2 #[.val (.long p1), .second, .val (.long p2), .second, .val (.long p3), .second, .val (.long p4), .second, .val (.int p5), .unset, .unset, .unset, .unset, .unset, .unset, .unset, .unset, .unset, .unset, .unset] [(.int p5)]))
  refine own_st (fun _ k => XT.iconstV X0.here hx rfl (3 : Int32) (hb hby at_2) (by decide) k) ?_
  show own_Go p e below s _ _ _ (s₁.setTop (mkF m 3 #[.val (.long p1), .second, .val (.long p2), .second, .val (.long p3), .second, .val (.long p4), .second, .val (.int p5), .unset, .unset, .unset, .unset, .unset, .unset, .unset, .unset, .unset, .unset, .unset] [(.int (3 : Int32)), (.int p5)]))
  refine own_st (fun _ k => XS.iand X0.here hx rfl (hb hby at_3) rfl k) ?_
  show own_Go p e below s _ _ _ (s₁.setTop (mkF m 4 #[.val (.long p1), .second, .val (.long p2), .second, .val (.long p3), .second, .val (.long p4), .second, .val (.int p5), .unset, .unset, .unset, .unset, .unset, .unset, .unset, .unset, .unset, .unset, .unset] [(.int (p5 &&& (3 : Int32)))]))
  refine own_st (fun _ k => XS.istore X0.here hx rfl (hb hby at_4) rfl (l' := #[.val (.long p1), .second, .val (.long p2), .second, .val (.long p3), .second, .val (.long p4), .second, .val (.int p5), .val (.int (p5 &&& (3 : Int32))), .unset, .unset, .unset, .unset, .unset, .unset, .unset, .unset, .unset, .unset]) rfl k) ?_
  show own_Go p e below s _ _ _ (s₁.setTop (mkF m 6 #[.val (.long p1), .second, .val (.long p2), .second, .val (.long p3), .second, .val (.long p4), .second, .val (.int p5), .val (.int (p5 &&& (3 : Int32))), .unset, .unset, .unset, .unset, .unset, .unset, .unset, .unset, .unset, .unset] []))
  refine own_st (fun _ k => XS.iload X0.here hx rfl (hb hby at_6) rfl k) ?_
  show own_Go p e below s _ _ _ (s₁.setTop (mkF m 8 #[.val (.long p1), .second, .val (.long p2), .second, .val (.long p3), .second, .val (.long p4), .second, .val (.int p5), .val (.int (p5 &&& (3 : Int32))), .unset, .unset, .unset, .unset, .unset, .unset, .unset, .unset, .unset, .unset] [(.int p5)]))
  refine own_st (fun _ k => XT.iconstV X0.here hx rfl (2 : Int32) (hb hby at_8) (by decide) k) ?_
  show own_Go p e below s _ _ _ (s₁.setTop (mkF m 9 #[.val (.long p1), .second, .val (.long p2), .second, .val (.long p3), .second, .val (.long p4), .second, .val (.int p5), .val (.int (p5 &&& (3 : Int32))), .unset, .unset, .unset, .unset, .unset, .unset, .unset, .unset, .unset, .unset] [(.int (2 : Int32)), (.int p5)]))
  refine own_st (fun _ k => XT.iushr X0.here hx rfl (hb hby at_9) rfl k) ?_
  show own_Go p e below s _ _ _ (s₁.setTop (mkF m 10 #[.val (.long p1), .second, .val (.long p2), .second, .val (.long p3), .second, .val (.long p4), .second, .val (.int p5), .val (.int (p5 &&& (3 : Int32))), .unset, .unset, .unset, .unset, .unset, .unset, .unset, .unset, .unset, .unset] [(.int (XT.ushr p5 (2 : Int32)))]))
  refine own_st (fun _ k => XT.iconstV X0.here hx rfl (3 : Int32) (hb hby at_10) (by decide) k) ?_
  show own_Go p e below s _ _ _ (s₁.setTop (mkF m 11 #[.val (.long p1), .second, .val (.long p2), .second, .val (.long p3), .second, .val (.long p4), .second, .val (.int p5), .val (.int (p5 &&& (3 : Int32))), .unset, .unset, .unset, .unset, .unset, .unset, .unset, .unset, .unset, .unset] [(.int (3 : Int32)), (.int (XT.ushr p5 (2 : Int32)))]))
  refine own_st (fun _ k => XS.iand X0.here hx rfl (hb hby at_11) rfl k) ?_
  show own_Go p e below s _ _ _ (s₁.setTop (mkF m 12 #[.val (.long p1), .second, .val (.long p2), .second, .val (.long p3), .second, .val (.long p4), .second, .val (.int p5), .val (.int (p5 &&& (3 : Int32))), .unset, .unset, .unset, .unset, .unset, .unset, .unset, .unset, .unset, .unset] [(.int ((XT.ushr p5 (2 : Int32)) &&& (3 : Int32)))]))
  refine own_st (fun _ k => XS.istore X0.here hx rfl (hb hby at_12) rfl (l' := #[.val (.long p1), .second, .val (.long p2), .second, .val (.long p3), .second, .val (.long p4), .second, .val (.int p5), .val (.int (p5 &&& (3 : Int32))), .val (.int ((XT.ushr p5 (2 : Int32)) &&& (3 : Int32))), .unset, .unset, .unset, .unset, .unset, .unset, .unset, .unset, .unset]) rfl k) ?_
  show own_Go p e below s _ _ _ (s₁.setTop (mkF m 14 #[.val (.long p1), .second, .val (.long p2), .second, .val (.long p3), .second, .val (.long p4), .second, .val (.int p5), .val (.int (p5 &&& (3 : Int32))), .val (.int ((XT.ushr p5 (2 : Int32)) &&& (3 : Int32))), .unset, .unset, .unset, .unset, .unset, .unset, .unset, .unset, .unset] []))
  refine own_st (fun _ k => XS.iload X0.here hx rfl (hb hby at_14) rfl k) ?_
  show own_Go p e below s _ _ _ (s₁.setTop (mkF m 16 #[.val (.long p1), .second, .val (.long p2), .second, .val (.long p3), .second, .val (.long p4), .second, .val (.int p5), .val (.int (p5 &&& (3 : Int32))), .val (.int ((XT.ushr p5 (2 : Int32)) &&& (3 : Int32))), .unset, .unset, .unset, .unset, .unset, .unset, .unset, .unset, .unset] [(.int (p5 &&& (3 : Int32)))]))
  by_cases hc65 : (p5 &&& (3 : Int32)) = 0
  · refine own_st (fun _ k => XS.ifNo X0.here hx rfl (hb hby at_16) rfl (XT.i0_ne_f hc65) k) ?_
    show own_Go p e below s _ _ _ (s₁.setTop (mkF m 19 #[.val (.long p1), .second, .val (.long p2), .second, .val (.long p3), .second, .val (.long p4), .second, .val (.int p5), .val (.int (p5 &&& (3 : Int32))), .val (.int ((XT.ushr p5 (2 : Int32)) &&& (3 : Int32))), .unset, .unset, .unset, .unset, .unset, .unset, .unset, .unset, .unset] []))
    refine own_st (fun _ k => XT.lloadN X0.here hx rfl (hb hby at_19) rfl k) ?_
    show own_Go p e below s _ _ _ (s₁.setTop (mkF m 20 #[.val (.long p1), .second, .val (.long p2), .second, .val (.long p3), .second, .val (.long p4), .second, .val (.int p5), .val (.int (p5 &&& (3 : Int32))), .val (.int ((XT.ushr p5 (2 : Int32)) &&& (3 : Int32))), .unset, .unset, .unset, .unset, .unset, .unset, .unset, .unset, .unset] [(.long p1)]))
    refine own_st (fun _ k => XT.lstore X0.here hx rfl (hb hby at_20) rfl (l' := #[.val (.long p1), .second, .val (.long p2), .second, .val (.long p3), .second, .val (.long p4), .second, .val (.int p5), .val (.int (p5 &&& (3 : Int32))), .val (.int ((XT.ushr p5 (2 : Int32)) &&& (3 : Int32))), .val (.long p1), .second, .unset, .unset, .unset, .unset, .unset, .unset, .unset]) rfl k) ?_
    show own_Go p e below s _ _ _ (s₁.setTop (mkF m 22 #[.val (.long p1), .second, .val (.long p2), .second, .val (.long p3), .second, .val (.long p4), .second, .val (.int p5), .val (.int (p5 &&& (3 : Int32))), .val (.int ((XT.ushr p5 (2 : Int32)) &&& (3 : Int32))), .val (.long p1), .second, .unset, .unset, .unset, .unset, .unset, .unset, .unset] []))
    refine own_st (fun _ k => XT.lloadN X0.here hx rfl (hb hby at_22) rfl k) ?_
    show own_Go p e below s _ _ _ (s₁.setTop (mkF m 23 #[.val (.long p1), .second, .val (.long p2), .second, .val (.long p3), .second, .val (.long p4), .second, .val (.int p5), .val (.int (p5 &&& (3 : Int32))), .val (.int ((XT.ushr p5 (2 : Int32)) &&& (3 : Int32))), .val (.long p1), .second, .unset, .unset, .unset, .unset, .unset, .unset, .unset] [(.long p2)]))
    refine own_st (fun _ k => XT.lstore X0.here hx rfl (hb hby at_23) rfl (l' := #[.val (.long p1), .second, .val (.long p2), .second, .val (.long p3), .second, .val (.long p4), .second, .val (.int p5), .val (.int (p5 &&& (3 : Int32))), .val (.int ((XT.ushr p5 (2 : Int32)) &&& (3 : Int32))), .val (.long p1), .second, .val (.long p2), .second, .unset, .unset, .unset, .unset, .unset]) rfl k) ?_
    show own_Go p e below s _ _ _ (s₁.setTop (mkF m 25 #[.val (.long p1), .second, .val (.long p2), .second, .val (.long p3), .second, .val (.long p4), .second, .val (.int p5), .val (.int (p5 &&& (3 : Int32))), .val (.int ((XT.ushr p5 (2 : Int32)) &&& (3 : Int32))), .val (.long p1), .second, .val (.long p2), .second, .unset, .unset, .unset, .unset, .unset] []))
    refine own_st (fun _ k => XS.goto X0.here hx rfl (pc0 := 25) (pc' := 68) rfl (hb hby at_25) (by decide) (by decide) k) ?_
    show own_Go p e below s _ _ _ (s₁.setTop (mkF m 68 #[.val (.long p1), .second, .val (.long p2), .second, .val (.long p3), .second, .val (.long p4), .second, .val (.int p5), .val (.int (p5 &&& (3 : Int32))), .val (.int ((XT.ushr p5 (2 : Int32)) &&& (3 : Int32))), .val (.long p1), .second, .val (.long p2), .second, .unset, .unset, .unset, .unset, .unset] []))
    obtain ⟨T66, h66, X66, e66, E66, A66, D66, -, st66⟩ := newO X0 hx hZ hown (hw _ (List.mem_of_getElem? (i := 0) rfl)) (hw _ (List.mem_of_getElem? (i := 1) rfl)) (hw _ (List.mem_of_getElem? (i := 2) rfl)) e0 (g := (mkF m 68 #[.val (.long p1), .second, .val (.long p2), .second, .val (.long p3), .second, .val (.long p4), .second, .val (.int p5), .val (.int (p5 &&& (3 : Int32))), .val (.int ((XT.ushr p5 (2 : Int32)) &&& (3 : Int32))), .val (.long p1), .second, .val (.long p2), .second, .unset, .unset, .unset, .unset, .unset] [])) rfl (hb hby at_68) (by decide) (by decide)
    obtain ⟨b66, g66⟩ : ∃ z, z = h0.size := ⟨_, rfl⟩
    rw [← g66] at A66 D66 st66
    refine own_st st66 ?_
    have Zs67 : n0 ≤ h66.size := Nat.le_trans Z0 E66.1
    have g68 : n0 ≤ b66 := Nat.le_trans Z0 (Nat.le_of_eq g66.symm)
    have F69 : Fld Z h66 b66 "com/example/epoch/epoch/protocol/record/TimestampedOffset" "timestamp" "J" (.long (0 : Int64)) := D66 (Or.inr (hw _ (List.mem_of_getElem? (i := 10) rfl))) (ty := .long) (by decide)
    have F70 : Fld Z h66 b66 "com/example/epoch/epoch/protocol/record/TimestampedOffset" "offset" "J" (.long (0 : Int64)) := D66 (Or.inr (hw _ (List.mem_of_getElem? (i := 12) rfl))) (ty := .long) (by decide)
    show own_Go p e below s _ _ _ (T66.setTop (mkF m 71 #[.val (.long p1), .second, .val (.long p2), .second, .val (.long p3), .second, .val (.long p4), .second, .val (.int p5), .val (.int (p5 &&& (3 : Int32))), .val (.int ((XT.ushr p5 (2 : Int32)) &&& (3 : Int32))), .val (.long p1), .second, .val (.long p2), .second, .unset, .unset, .unset, .unset, .unset] [(.ref b66)]))
    refine own_st (fun _ k => XS.dup X66.here hx rfl (hb hby at_71) rfl rfl k) ?_
    show own_Go p e below s _ _ _ (T66.setTop (mkF m 72 #[.val (.long p1), .second, .val (.long p2), .second, .val (.long p3), .second, .val (.long p4), .second, .val (.int p5), .val (.int (p5 &&& (3 : Int32))), .val (.int ((XT.ushr p5 (2 : Int32)) &&& (3 : Int32))), .val (.long p1), .second, .val (.long p2), .second, .unset, .unset, .unset, .unset, .unset] [(.ref b66), (.ref b66)]))
    refine own_st (fun _ k => XT.lloadN X66.here hx rfl (hb hby at_72) rfl k) ?_
    show own_Go p e below s _ _ _ (T66.setTop (mkF m 73 #[.val (.long p1), .second, .val (.long p2), .second, .val (.long p3), .second, .val (.long p4), .second, .val (.int p5), .val (.int (p5 &&& (3 : Int32))), .val (.int ((XT.ushr p5 (2 : Int32)) &&& (3 : Int32))), .val (.long p1), .second, .val (.long p2), .second, .unset, .unset, .unset, .unset, .unset] [(.long p1), (.ref b66), (.ref b66)]))
    refine own_st (fun _ k => XT.lloadN X66.here hx rfl (hb hby at_73) rfl k) ?_
    show own_Go p e below s _ _ _ (T66.setTop (mkF m 74 #[.val (.long p1), .second, .val (.long p2), .second, .val (.long p3), .second, .val (.long p4), .second, .val (.int p5), .val (.int (p5 &&& (3 : Int32))), .val (.int ((XT.ushr p5 (2 : Int32)) &&& (3 : Int32))), .val (.long p1), .second, .val (.long p2), .second, .unset, .unset, .unset, .unset, .unset] [(.long p2), (.long p1), (.ref b66), (.ref b66)]))
    obtain ⟨_, _, ⟨T71, L71, k71, n71⟩, -, X71, ⟨Lc71, hQ71, l71, y71, z71⟩, st71⟩ := X66.specialBack hx (y := (⟨"com/example/epoch/epoch/protocol/record/TimestampedOffset", "<init>", "(JJ)V"⟩ : MethodName)) rfl hown (mvT hZ (hw _ (List.mem_of_getElem? (i := 3) rfl))) (mvT hZ (hw _ (List.mem_of_getElem? (i := 4) rfl))) (mvT hZ (hw _ (List.mem_of_getElem? (i := 5) rfl))) (by decide) (backOf (W := 1) (own_rm_init l Z a0 hw [] b66 p1 p2 h66 n0 Zs67 A66 F69 F70 g68) hZ (hw _ (List.mem_of_getElem? (i := 5) rfl)) (hw _ (List.mem_of_getElem? (i := 2) rfl)) (by decide) (by decide)) (g := (mkF m 74 #[.val (.long p1), .second, .val (.long p2), .second, .val (.long p3), .second, .val (.long p4), .second, .val (.int p5), .val (.int (p5 &&& (3 : Int32))), .val (.int ((XT.ushr p5 (2 : Int32)) &&& (3 : Int32))), .val (.long p1), .second, .val (.long p2), .second, .unset, .unset, .unset, .unset, .unset] [(.long p2), (.long p1), (.ref b66), (.ref b66)])) rfl (by rw [hml]; rfl) (Steps.refl _) (a := b66) (argsL := [(.long p1), (.long p2)]) (rest := [(.ref b66)]) (lenOf own_pd2 rfl) rfl (by show 2 * 0 + _ ≤ _; exact Nat.le_of_eq rfl) (hb hby at_74) (fun _ _ => ⟨rfl, e66, (by decide : 1 + 0 ≤ _), (by decide : 2 + 0 ≤ _)⟩)
    dsimp only [Pt.U, Pt.locs, Pt.cells, Pt.slots] at X71 l71 y71 z71 st71 hQ71
    subst l71 y71 z71
    obtain ⟨N71q, rfl, K71, q72, q73, q74⟩ := hQ71
    have N75 := Fr.app N0 N71q
    refine own_tr st71 ?_
    have Zs76 : n0 ≤ T71.heap.size := Nat.le_trans Zs67 K71.1
    show own_Go p e below s _ _ _ (T71.setTop (mkF m 77 #[.val (.long p1), .second, .val (.long p2), .second, .val (.long p3), .second, .val (.long p4), .second, .val (.int p5), .val (.int (p5 &&& (3 : Int32))), .val (.int ((XT.ushr p5 (2 : Int32)) &&& (3 : Int32))), .val (.long p1), .second, .val (.long p2), .second, .unset, .unset, .unset, .unset, .unset] [(.ref b66)]))
    refine own_st (fun _ k => XS.astore X71.here hx rfl (hb hby at_77) rfl rfl (l' := #[.val (.long p1), .second, .val (.long p2), .second, .val (.long p3), .second, .val (.long p4), .second, .val (.int p5), .val (.int (p5 &&& (3 : Int32))), .val (.int ((XT.ushr p5 (2 : Int32)) &&& (3 : Int32))), .val (.long p1), .second, .val (.long p2), .second, .val (.ref b66), .unset, .unset, .unset, .unset]) rfl k) ?_
    show own_Go p e below s _ _ _ (T71.setTop (mkF m 79 #[.val (.long p1), .second, .val (.long p2), .second, .val (.long p3), .second, .val (.long p4), .second, .val (.int p5), .val (.int (p5 &&& (3 : Int32))), .val (.int ((XT.ushr p5 (2 : Int32)) &&& (3 : Int32))), .val (.long p1), .second, .val (.long p2), .second, .val (.ref b66), .unset, .unset, .unset, .unset] []))
    obtain ⟨T77, h77, X77, e77, E77, A77, D77, -, st77⟩ := newO X71 hx hZ hown (hw _ (List.mem_of_getElem? (i := 0) rfl)) (hw _ (List.mem_of_getElem? (i := 1) rfl)) (hw _ (List.mem_of_getElem? (i := 2) rfl)) rfl (g := (mkF m 79 #[.val (.long p1), .second, .val (.long p2), .second, .val (.long p3), .second, .val (.long p4), .second, .val (.int p5), .val (.int (p5 &&& (3 : Int32))), .val (.int ((XT.ushr p5 (2 : Int32)) &&& (3 : Int32))), .val (.long p1), .second, .val (.long p2), .second, .val (.ref b66), .unset, .unset, .unset, .unset] [])) rfl (hb hby at_79) (by decide) (by decide)
    obtain ⟨b77, g77⟩ : ∃ z, z = T71.heap.size := ⟨_, rfl⟩
    rw [← g77] at A77 D77 st77
    refine own_st st77 ?_
    have Zs78 : n0 ≤ h77.size := Nat.le_trans Zs76 E77.1
    have g79 : n0 ≤ b77 := Nat.le_trans Zs76 (Nat.le_of_eq g77.symm)
    have F80 : Fld Z h77 b77 "com/example/epoch/epoch/protocol/record/TimestampedOffset" "timestamp" "J" (.long (0 : Int64)) := D77 (Or.inr (hw _ (List.mem_of_getElem? (i := 10) rfl))) (ty := .long) (by decide)
    have F81 : Fld Z h77 b77 "com/example/epoch/epoch/protocol/record/TimestampedOffset" "offset" "J" (.long (0 : Int64)) := D77 (Or.inr (hw _ (List.mem_of_getElem? (i := 12) rfl))) (ty := .long) (by decide)
    show own_Go p e below s _ _ _ (T77.setTop (mkF m 82 #[.val (.long p1), .second, .val (.long p2), .second, .val (.long p3), .second, .val (.long p4), .second, .val (.int p5), .val (.int (p5 &&& (3 : Int32))), .val (.int ((XT.ushr p5 (2 : Int32)) &&& (3 : Int32))), .val (.long p1), .second, .val (.long p2), .second, .val (.ref b66), .unset, .unset, .unset, .unset] [(.ref b77)]))
    refine own_st (fun _ k => XS.dup X77.here hx rfl (hb hby at_82) rfl rfl k) ?_
    show own_Go p e below s _ _ _ (T77.setTop (mkF m 83 #[.val (.long p1), .second, .val (.long p2), .second, .val (.long p3), .second, .val (.long p4), .second, .val (.int p5), .val (.int (p5 &&& (3 : Int32))), .val (.int ((XT.ushr p5 (2 : Int32)) &&& (3 : Int32))), .val (.long p1), .second, .val (.long p2), .second, .val (.ref b66), .unset, .unset, .unset, .unset] [(.ref b77), (.ref b77)]))
    refine own_st (fun _ k => XT.lload X77.here hx rfl (hb hby at_83) rfl k) ?_
    show own_Go p e below s _ _ _ (T77.setTop (mkF m 85 #[.val (.long p1), .second, .val (.long p2), .second, .val (.long p3), .second, .val (.long p4), .second, .val (.int p5), .val (.int (p5 &&& (3 : Int32))), .val (.int ((XT.ushr p5 (2 : Int32)) &&& (3 : Int32))), .val (.long p1), .second, .val (.long p2), .second, .val (.ref b66), .unset, .unset, .unset, .unset] [(.long p1), (.ref b77), (.ref b77)]))
    refine own_st (fun _ k => XT.lload X77.here hx rfl (hb hby at_85) rfl k) ?_
    show own_Go p e below s _ _ _ (T77.setTop (mkF m 87 #[.val (.long p1), .second, .val (.long p2), .second, .val (.long p3), .second, .val (.long p4), .second, .val (.int p5), .val (.int (p5 &&& (3 : Int32))), .val (.int ((XT.ushr p5 (2 : Int32)) &&& (3 : Int32))), .val (.long p1), .second, .val (.long p2), .second, .val (.ref b66), .unset, .unset, .unset, .unset] [(.long p2), (.long p1), (.ref b77), (.ref b77)]))
    obtain ⟨_, _, ⟨T82, L82, k82, n82⟩, -, X82, ⟨Lc82, hQ82, l82, y82, z82⟩, st82⟩ := X77.specialBack hx (y := (⟨"com/example/epoch/epoch/protocol/record/TimestampedOffset", "<init>", "(JJ)V"⟩ : MethodName)) rfl hown (mvT hZ (hw _ (List.mem_of_getElem? (i := 3) rfl))) (mvT hZ (hw _ (List.mem_of_getElem? (i := 4) rfl))) (mvT hZ (hw _ (List.mem_of_getElem? (i := 5) rfl))) (by decide) (backOf (W := 1) (own_rm_init l Z a0 hw [] b77 p1 p2 h77 n0 Zs78 A77 F80 F81 g79) hZ (hw _ (List.mem_of_getElem? (i := 5) rfl)) (hw _ (List.mem_of_getElem? (i := 2) rfl)) (by decide) (by decide)) (g := (mkF m 87 #[.val (.long p1), .second, .val (.long p2), .second, .val (.long p3), .second, .val (.long p4), .second, .val (.int p5), .val (.int (p5 &&& (3 : Int32))), .val (.int ((XT.ushr p5 (2 : Int32)) &&& (3 : Int32))), .val (.long p1), .second, .val (.long p2), .second, .val (.ref b66), .unset, .unset, .unset, .unset] [(.long p2), (.long p1), (.ref b77), (.ref b77)])) rfl (by rw [hml]; rfl) (Steps.refl _) (a := b77) (argsL := [(.long p1), (.long p2)]) (rest := [(.ref b77)]) (lenOf own_pd2 rfl) rfl (by show 2 * 0 + _ ≤ _; exact Nat.le_of_eq rfl) (hb hby at_87) (fun _ _ => ⟨rfl, e77, (by decide : 2 + 0 ≤ _), (by decide : 4 + 0 ≤ _)⟩)
    dsimp only [Pt.U, Pt.locs, Pt.cells, Pt.slots] at X82 l82 y82 z82 st82 hQ82
    subst l82 y82 z82
    obtain ⟨N82q, rfl, K82, q83, q84, q85⟩ := hQ82
    have N86 := Fr.app N75 N82q
    refine own_tr st82 ?_
    have Zs87 : n0 ≤ T82.heap.size := Nat.le_trans Zs78 K82.1
    show own_Go p e below s _ _ _ (T82.setTop (mkF m 90 #[.val (.long p1), .second, .val (.long p2), .second, .val (.long p3), .second, .val (.long p4), .second, .val (.int p5), .val (.int (p5 &&& (3 : Int32))), .val (.int ((XT.ushr p5 (2 : Int32)) &&& (3 : Int32))), .val (.long p1), .second, .val (.long p2), .second, .val (.ref b66), .unset, .unset, .unset, .unset] [(.ref b77)]))
    refine own_st (fun _ k => XS.astore X82.here hx rfl (hb hby at_90) rfl rfl (l' := #[.val (.long p1), .second, .val (.long p2), .second, .val (.long p3), .second, .val (.long p4), .second, .val (.int p5), .val (.int (p5 &&& (3 : Int32))), .val (.int ((XT.ushr p5 (2 : Int32)) &&& (3 : Int32))), .val (.long p1), .second, .val (.long p2), .second, .val (.ref b66), .val (.ref b77), .unset, .unset, .unset]) rfl k) ?_
    show own_Go p e below s _ _ _ (T82.setTop (mkF m 92 #[.val (.long p1), .second, .val (.long p2), .second, .val (.long p3), .second, .val (.long p4), .second, .val (.int p5), .val (.int (p5 &&& (3 : Int32))), .val (.int ((XT.ushr p5 (2 : Int32)) &&& (3 : Int32))), .val (.long p1), .second, .val (.long p2), .second, .val (.ref b66), .val (.ref b77), .unset, .unset, .unset] []))
    refine own_st (fun _ k => XS.iload X82.here hx rfl (hb hby at_92) rfl k) ?_
    show own_Go p e below s _ _ _ (T82.setTop (mkF m 94 #[.val (.long p1), .second, .val (.long p2), .second, .val (.long p3), .second, .val (.long p4), .second, .val (.int p5), .val (.int (p5 &&& (3 : Int32))), .val (.int ((XT.ushr p5 (2 : Int32)) &&& (3 : Int32))), .val (.long p1), .second, .val (.long p2), .second, .val (.ref b66), .val (.ref b77), .unset, .unset, .unset] [(.int ((XT.ushr p5 (2 : Int32)) &&& (3 : Int32)))]))
    by_cases hc88 : ((XT.ushr p5 (2 : Int32)) &&& (3 : Int32)) = 0
    · refine own_st (fun _ k => XS.ifNo X82.here hx rfl (hb hby at_94) rfl (XT.i0_ne_f hc88) k) ?_
      show own_Go p e below s _ _ _ (T82.setTop (mkF m 97 #[.val (.long p1), .second, .val (.long p2), .second, .val (.long p3), .second, .val (.long p4), .second, .val (.int p5), .val (.int (p5 &&& (3 : Int32))), .val (.int ((XT.ushr p5 (2 : Int32)) &&& (3 : Int32))), .val (.long p1), .second, .val (.long p2), .second, .val (.ref b66), .val (.ref b77), .unset, .unset, .unset] []))
      refine own_st (fun _ k => XT.lload X82.here hx rfl (hb hby at_97) rfl k) ?_
      show own_Go p e below s _ _ _ (T82.setTop (mkF m 99 #[.val (.long p1), .second, .val (.long p2), .second, .val (.long p3), .second, .val (.long p4), .second, .val (.int p5), .val (.int (p5 &&& (3 : Int32))), .val (.int ((XT.ushr p5 (2 : Int32)) &&& (3 : Int32))), .val (.long p1), .second, .val (.long p2), .second, .val (.ref b66), .val (.ref b77), .unset, .unset, .unset] [(.long p1)]))
      refine own_st (fun _ k => XT.lloadN X82.here hx rfl (hb hby at_99) rfl k) ?_
      show own_Go p e below s _ _ _ (T82.setTop (mkF m 100 #[.val (.long p1), .second, .val (.long p2), .second, .val (.long p3), .second, .val (.long p4), .second, .val (.int p5), .val (.int (p5 &&& (3 : Int32))), .val (.int ((XT.ushr p5 (2 : Int32)) &&& (3 : Int32))), .val (.long p1), .second, .val (.long p2), .second, .val (.ref b66), .val (.ref b77), .unset, .unset, .unset] [(.long p1), (.long p1)]))
      refine own_st (fun _ k => XT.lcmp X82.here hx rfl (hb hby at_100) rfl k) ?_
      show own_Go p e below s _ _ _ (T82.setTop (mkF m 101 #[.val (.long p1), .second, .val (.long p2), .second, .val (.long p3), .second, .val (.long p4), .second, .val (.int p5), .val (.int (p5 &&& (3 : Int32))), .val (.int ((XT.ushr p5 (2 : Int32)) &&& (3 : Int32))), .val (.long p1), .second, .val (.long p2), .second, .val (.ref b66), .val (.ref b77), .unset, .unset, .unset] [(.int (XT.cmpL p1 p1))]))
      refine own_st (fun _ k => XS.ifNo X82.here hx rfl (hb hby at_101) rfl (XT.ll_ne_f rfl) k) ?_
      show own_Go p e below s _ _ _ (T82.setTop (mkF m 104 #[.val (.long p1), .second, .val (.long p2), .second, .val (.long p3), .second, .val (.long p4), .second, .val (.int p5), .val (.int (p5 &&& (3 : Int32))), .val (.int ((XT.ushr p5 (2 : Int32)) &&& (3 : Int32))), .val (.long p1), .second, .val (.long p2), .second, .val (.ref b66), .val (.ref b77), .unset, .unset, .unset] []))
      refine own_st (fun _ k => XT.lload X82.here hx rfl (hb hby at_104) rfl k) ?_
      show own_Go p e below s _ _ _ (T82.setTop (mkF m 106 #[.val (.long p1), .second, .val (.long p2), .second, .val (.long p3), .second, .val (.long p4), .second, .val (.int p5), .val (.int (p5 &&& (3 : Int32))), .val (.int ((XT.ushr p5 (2 : Int32)) &&& (3 : Int32))), .val (.long p1), .second, .val (.long p2), .second, .val (.ref b66), .val (.ref b77), .unset, .unset, .unset] [(.long p2)]))
      refine own_st (fun _ k => XT.lloadN X82.here hx rfl (hb hby at_106) rfl k) ?_
      show own_Go p e below s _ _ _ (T82.setTop (mkF m 107 #[.val (.long p1), .second, .val (.long p2), .second, .val (.long p3), .second, .val (.long p4), .second, .val (.int p5), .val (.int (p5 &&& (3 : Int32))), .val (.int ((XT.ushr p5 (2 : Int32)) &&& (3 : Int32))), .val (.long p1), .second, .val (.long p2), .second, .val (.ref b66), .val (.ref b77), .unset, .unset, .unset] [(.long p2), (.long p2)]))
      refine own_st (fun _ k => XT.lcmp X82.here hx rfl (hb hby at_107) rfl k) ?_
      show own_Go p e below s _ _ _ (T82.setTop (mkF m 108 #[.val (.long p1), .second, .val (.long p2), .second, .val (.long p3), .second, .val (.long p4), .second, .val (.int p5), .val (.int (p5 &&& (3 : Int32))), .val (.int ((XT.ushr p5 (2 : Int32)) &&& (3 : Int32))), .val (.long p1), .second, .val (.long p2), .second, .val (.ref b66), .val (.ref b77), .unset, .unset, .unset] [(.int (XT.cmpL p2 p2))]))
      refine own_st (fun _ k => XS.ifNo X82.here hx rfl (hb hby at_108) rfl (XT.ll_ne_f rfl) k) ?_
      show own_Go p e below s _ _ _ (T82.setTop (mkF m 111 #[.val (.long p1), .second, .val (.long p2), .second, .val (.long p3), .second, .val (.long p4), .second, .val (.int p5), .val (.int (p5 &&& (3 : Int32))), .val (.int ((XT.ushr p5 (2 : Int32)) &&& (3 : Int32))), .val (.long p1), .second, .val (.long p2), .second, .val (.ref b66), .val (.ref b77), .unset, .unset, .unset] []))
      refine own_st (fun _ k => XT.iconstV X82.here hx rfl (1 : Int32) (hb hby at_111) (by decide) k) ?_
      show own_Go p e below s _ _ _ (T82.setTop (mkF m 112 #[.val (.long p1), .second, .val (.long p2), .second, .val (.long p3), .second, .val (.long p4), .second, .val (.int p5), .val (.int (p5 &&& (3 : Int32))), .val (.int ((XT.ushr p5 (2 : Int32)) &&& (3 : Int32))), .val (.long p1), .second, .val (.long p2), .second, .val (.ref b66), .val (.ref b77), .unset, .unset, .unset] [(.int (1 : Int32))]))
      refine own_st (fun _ k => XS.goto X82.here hx rfl (pc0 := 112) (pc' := 116) rfl (hb hby at_112) (by decide) (by decide) k) ?_
      show own_Go p e below s _ _ _ (T82.setTop (mkF m 116 #[.val (.long p1), .second, .val (.long p2), .second, .val (.long p3), .second, .val (.long p4), .second, .val (.int p5), .val (.int (p5 &&& (3 : Int32))), .val (.int ((XT.ushr p5 (2 : Int32)) &&& (3 : Int32))), .val (.long p1), .second, .val (.long p2), .second, .val (.ref b66), .val (.ref b77), .unset, .unset, .unset] [(.int (1 : Int32))]))
      refine own_st (fun _ k => XS.istore X82.here hx rfl (hb hby at_116) rfl (l' := #[.val (.long p1), .second, .val (.long p2), .second, .val (.long p3), .second, .val (.long p4), .second, .val (.int p5), .val (.int (p5 &&& (3 : Int32))), .val (.int ((XT.ushr p5 (2 : Int32)) &&& (3 : Int32))), .val (.long p1), .second, .val (.long p2), .second, .val (.ref b66), .val (.ref b77), .val (.int (1 : Int32)), .unset, .unset]) rfl k) ?_
      show own_Go p e below s _ _ _ (T82.setTop (mkF m 118 #[.val (.long p1), .second, .val (.long p2), .second, .val (.long p3), .second, .val (.long p4), .second, .val (.int p5), .val (.int (p5 &&& (3 : Int32))), .val (.int ((XT.ushr p5 (2 : Int32)) &&& (3 : Int32))), .val (.long p1), .second, .val (.long p2), .second, .val (.ref b66), .val (.ref b77), .val (.int (1 : Int32)), .unset, .unset] []))
      refine own_st (fun _ k => XS.aload X82.here hx rfl (hb hby at_118) rfl rfl k) ?_
      show own_Go p e below s _ _ _ (T82.setTop (mkF m 120 #[.val (.long p1), .second, .val (.long p2), .second, .val (.long p3), .second, .val (.long p4), .second, .val (.int p5), .val (.int (p5 &&& (3 : Int32))), .val (.int ((XT.ushr p5 (2 : Int32)) &&& (3 : Int32))), .val (.long p1), .second, .val (.long p2), .second, .val (.ref b66), .val (.ref b77), .val (.int (1 : Int32)), .unset, .unset] [(.ref b66)]))
      refine own_st (fun _ k => XS.aload X82.here hx rfl (hb hby at_120) rfl rfl k) ?_
      show own_Go p e below s _ _ _ (T82.setTop (mkF m 122 #[.val (.long p1), .second, .val (.long p2), .second, .val (.long p3), .second, .val (.long p4), .second, .val (.int p5), .val (.int (p5 &&& (3 : Int32))), .val (.int ((XT.ushr p5 (2 : Int32)) &&& (3 : Int32))), .val (.long p1), .second, .val (.long p2), .second, .val (.ref b66), .val (.ref b77), .val (.int (1 : Int32)), .unset, .unset] [(.ref b77), (.ref b66)]))
      have F90 : Exa Z T82.heap b66 "com/example/epoch/epoch/protocol/record/TimestampedOffset" := ((q72.ext E77).keep K82)
      have ne91 : b66 ≠ b77 := Nat.ne_of_lt (Nat.lt_of_lt_of_le (Nat.lt_of_lt_of_le A66.lt K71.1) (Nat.le_of_eq g77.symm))
      have F92 : Fld Z T82.heap b66 "com/example/epoch/epoch/protocol/record/TimestampedOffset" "timestamp" "J" (.long p1) := ((q73.ext E77).keep K82 (ninS ne91 nin0))
      have F93 : Fld Z T82.heap b66 "com/example/epoch/epoch/protocol/record/TimestampedOffset" "offset" "J" (.long p2) := ((q74.ext E77).keep K82 (ninS ne91 nin0))
      obtain ⟨cq89, kq89, q89a, q89b, q89c⟩ := isOf hZ rfl F90
      obtain ⟨_, _, ⟨T89, L89, k89, n89⟩, -, X89, ⟨Lc89, hQ89, l89, y89, z89⟩, st89⟩ := X82.virtualBack hx (y := (⟨"com/example/epoch/epoch/protocol/record/TimestampedOffset", "equals", "(Ljava/lang/Object;)Z"⟩ : MethodName)) (z := (⟨"com/example/epoch/epoch/protocol/record/TimestampedOffset", "equals", "(Ljava/lang/Object;)Z"⟩ : MethodName)) hown (mvT hZ (hw _ (List.mem_of_getElem? (i := 13) rfl))) (mvT hZ (hw _ (List.mem_of_getElem? (i := 14) rfl))) (notFace_of_selects (args := #[]) (mvT hZ (hw _ (List.mem_of_getElem? (i := 16) rfl)))) (mvT hZ (hw _ (List.mem_of_getElem? (i := 16) rfl))) (mvT hZ (hw _ (List.mem_of_getElem? (i := 15) rfl))) (by decide) (backOf (W := 0) (own_rm_eqA l Z a0 hw [] b66 b77 p1 p2 p1 p2 T82.heap n0 Zs87 q83 F92 F93 q84 q85) hZ (hw _ (List.mem_of_getElem? (i := 17) rfl)) (hw _ (List.mem_of_getElem? (i := 2) rfl)) (by decide) (by decide)) q89a q89c (g := (mkF m 122 #[.val (.long p1), .second, .val (.long p2), .second, .val (.long p3), .second, .val (.long p4), .second, .val (.int p5), .val (.int (p5 &&& (3 : Int32))), .val (.int ((XT.ushr p5 (2 : Int32)) &&& (3 : Int32))), .val (.long p1), .second, .val (.long p2), .second, .val (.ref b66), .val (.ref b77), .val (.int (1 : Int32)), .unset, .unset] [(.ref b77), (.ref b66)])) rfl (by rw [hml]; rfl) (Steps.refl _) (argsL := [(.ref b77)]) (rest := []) (lenOf own_pd3 rfl) rfl (by show 2 * 0 + _ ≤ _; exact Nat.le_of_eq rfl) (hb hby at_122) (fun _ _ => ⟨rfl, rfl, (by decide : 2 + 0 ≤ _), (by decide : 4 + 0 ≤ _)⟩)
      dsimp only [Pt.U, Pt.locs, Pt.cells, Pt.slots] at X89 l89 y89 z89 st89 hQ89
      subst l89 y89 z89
      obtain ⟨N89q, rfl, eh89⟩ := hQ89
      have N94 := Fr.app N86 N89q
      refine own_tr st89 ?_
      show own_Go p e below s _ _ _ (T89.setTop (mkF m 125 #[.val (.long p1), .second, .val (.long p2), .second, .val (.long p3), .second, .val (.long p4), .second, .val (.int p5), .val (.int (p5 &&& (3 : Int32))), .val (.int ((XT.ushr p5 (2 : Int32)) &&& (3 : Int32))), .val (.long p1), .second, .val (.long p2), .second, .val (.ref b66), .val (.ref b77), .val (.int (1 : Int32)), .unset, .unset] [(.int (if p1 = p1 then (if p2 = p2 then (1 : Int32) else 0) else 0))]))
      refine own_st (fun _ k => XS.istore X89.here hx rfl (hb hby at_125) rfl (l' := #[.val (.long p1), .second, .val (.long p2), .second, .val (.long p3), .second, .val (.long p4), .second, .val (.int p5), .val (.int (p5 &&& (3 : Int32))), .val (.int ((XT.ushr p5 (2 : Int32)) &&& (3 : Int32))), .val (.long p1), .second, .val (.long p2), .second, .val (.ref b66), .val (.ref b77), .val (.int (1 : Int32)), .val (.int (if p1 = p1 then (if p2 = p2 then (1 : Int32) else 0) else 0)), .unset]) rfl k) ?_
      show own_Go p e below s _ _ _ (T89.setTop (mkF m 127 #[.val (.long p1), .second, .val (.long p2), .second, .val (.long p3), .second, .val (.long p4), .second, .val (.int p5), .val (.int (p5 &&& (3 : Int32))), .val (.int ((XT.ushr p5 (2 : Int32)) &&& (3 : Int32))), .val (.long p1), .second, .val (.long p2), .second, .val (.ref b66), .val (.ref b77), .val (.int (1 : Int32)), .val (.int (if p1 = p1 then (if p2 = p2 then (1 : Int32) else 0) else 0)), .unset] []))
      refine own_st (fun _ k => XS.aload X89.here hx rfl (hb hby at_127) rfl rfl k) ?_
      show own_Go p e below s _ _ _ (T89.setTop (mkF m 129 #[.val (.long p1), .second, .val (.long p2), .second, .val (.long p3), .second, .val (.long p4), .second, .val (.int p5), .val (.int (p5 &&& (3 : Int32))), .val (.int ((XT.ushr p5 (2 : Int32)) &&& (3 : Int32))), .val (.long p1), .second, .val (.long p2), .second, .val (.ref b66), .val (.ref b77), .val (.int (1 : Int32)), .val (.int (if p1 = p1 then (if p2 = p2 then (1 : Int32) else 0) else 0)), .unset] [(.ref b77)]))
      refine own_st (fun _ k => XS.aload X89.here hx rfl (hb hby at_129) rfl rfl k) ?_
      show own_Go p e below s _ _ _ (T89.setTop (mkF m 131 #[.val (.long p1), .second, .val (.long p2), .second, .val (.long p3), .second, .val (.long p4), .second, .val (.int p5), .val (.int (p5 &&& (3 : Int32))), .val (.int ((XT.ushr p5 (2 : Int32)) &&& (3 : Int32))), .val (.long p1), .second, .val (.long p2), .second, .val (.ref b66), .val (.ref b77), .val (.int (1 : Int32)), .val (.int (if p1 = p1 then (if p2 = p2 then (1 : Int32) else 0) else 0)), .unset] [(.ref b66), (.ref b77)]))
      obtain ⟨cq95, kq95, q95a, q95b, q95c⟩ := isOf hZ eh89 q83
      obtain ⟨_, _, ⟨T95, L95, k95, n95⟩, -, X95, ⟨Lc95, hQ95, l95, y95, z95⟩, st95⟩ := X89.virtualBack hx (y := (⟨"com/example/epoch/epoch/protocol/record/TimestampedOffset", "equals", "(Ljava/lang/Object;)Z"⟩ : MethodName)) (z := (⟨"com/example/epoch/epoch/protocol/record/TimestampedOffset", "equals", "(Ljava/lang/Object;)Z"⟩ : MethodName)) hown (mvT hZ (hw _ (List.mem_of_getElem? (i := 13) rfl))) (mvT hZ (hw _ (List.mem_of_getElem? (i := 14) rfl))) (notFace_of_selects (args := #[]) (mvT hZ (hw _ (List.mem_of_getElem? (i := 16) rfl)))) (mvT hZ (hw _ (List.mem_of_getElem? (i := 16) rfl))) (mvT hZ (hw _ (List.mem_of_getElem? (i := 15) rfl))) (by decide) (backOf (W := 0) (own_rm_eqA l Z a0 hw [] b77 b66 p1 p2 p1 p2 T82.heap n0 Zs87 F90 q84 q85 F92 F93) hZ (hw _ (List.mem_of_getElem? (i := 17) rfl)) (hw _ (List.mem_of_getElem? (i := 2) rfl)) (by decide) (by decide)) q95a q95c (g := (mkF m 131 #[.val (.long p1), .second, .val (.long p2), .second, .val (.long p3), .second, .val (.long p4), .second, .val (.int p5), .val (.int (p5 &&& (3 : Int32))), .val (.int ((XT.ushr p5 (2 : Int32)) &&& (3 : Int32))), .val (.long p1), .second, .val (.long p2), .second, .val (.ref b66), .val (.ref b77), .val (.int (1 : Int32)), .val (.int (if p1 = p1 then (if p2 = p2 then (1 : Int32) else 0) else 0)), .unset] [(.ref b66), (.ref b77)])) rfl (by rw [hml]; rfl) (Steps.refl _) (argsL := [(.ref b66)]) (rest := []) (lenOf own_pd3 rfl) rfl (by show 2 * 0 + _ ≤ _; exact Nat.le_of_eq rfl) (hb hby at_131) (fun _ _ => ⟨rfl, eh89, (by decide : 2 + 0 ≤ _), (by decide : 4 + 0 ≤ _)⟩)
      dsimp only [Pt.U, Pt.locs, Pt.cells, Pt.slots] at X95 l95 y95 z95 st95 hQ95
      subst l95 y95 z95
      obtain ⟨N95q, rfl, eh95⟩ := hQ95
      have N96 := Fr.app N94 N95q
      refine own_tr st95 ?_
      show own_Go p e below s _ _ _ (T95.setTop (mkF m 134 #[.val (.long p1), .second, .val (.long p2), .second, .val (.long p3), .second, .val (.long p4), .second, .val (.int p5), .val (.int (p5 &&& (3 : Int32))), .val (.int ((XT.ushr p5 (2 : Int32)) &&& (3 : Int32))), .val (.long p1), .second, .val (.long p2), .second, .val (.ref b66), .val (.ref b77), .val (.int (1 : Int32)), .val (.int (if p1 = p1 then (if p2 = p2 then (1 : Int32) else 0) else 0)), .unset] [(.int (if p1 = p1 then (if p2 = p2 then (1 : Int32) else 0) else 0))]))
      refine own_st (fun _ k => XS.istore X95.here hx rfl (hb hby at_134) rfl (l' := #[.val (.long p1), .second, .val (.long p2), .second, .val (.long p3), .second, .val (.long p4), .second, .val (.int p5), .val (.int (p5 &&& (3 : Int32))), .val (.int ((XT.ushr p5 (2 : Int32)) &&& (3 : Int32))), .val (.long p1), .second, .val (.long p2), .second, .val (.ref b66), .val (.ref b77), .val (.int (1 : Int32)), .val (.int (if p1 = p1 then (if p2 = p2 then (1 : Int32) else 0) else 0)), .val (.int (if p1 = p1 then (if p2 = p2 then (1 : Int32) else 0) else 0))]) rfl k) ?_
      show own_Go p e below s _ _ _ (T95.setTop (mkF m 136 #[.val (.long p1), .second, .val (.long p2), .second, .val (.long p3), .second, .val (.long p4), .second, .val (.int p5), .val (.int (p5 &&& (3 : Int32))), .val (.int ((XT.ushr p5 (2 : Int32)) &&& (3 : Int32))), .val (.long p1), .second, .val (.long p2), .second, .val (.ref b66), .val (.ref b77), .val (.int (1 : Int32)), .val (.int (if p1 = p1 then (if p2 = p2 then (1 : Int32) else 0) else 0)), .val (.int (if p1 = p1 then (if p2 = p2 then (1 : Int32) else 0) else 0))] []))
      refine own_st (fun _ k => XS.iload X95.here hx rfl (hb hby at_136) rfl k) ?_
      show own_Go p e below s _ _ _ (T95.setTop (mkF m 138 #[.val (.long p1), .second, .val (.long p2), .second, .val (.long p3), .second, .val (.long p4), .second, .val (.int p5), .val (.int (p5 &&& (3 : Int32))), .val (.int ((XT.ushr p5 (2 : Int32)) &&& (3 : Int32))), .val (.long p1), .second, .val (.long p2), .second, .val (.ref b66), .val (.ref b77), .val (.int (1 : Int32)), .val (.int (if p1 = p1 then (if p2 = p2 then (1 : Int32) else 0) else 0)), .val (.int (if p1 = p1 then (if p2 = p2 then (1 : Int32) else 0) else 0))] [(.int (if p1 = p1 then (if p2 = p2 then (1 : Int32) else 0) else 0))]))
      refine own_st (fun _ k => XS.iload X95.here hx rfl (hb hby at_138) rfl k) ?_
      show own_Go p e below s _ _ _ (T95.setTop (mkF m 140 #[.val (.long p1), .second, .val (.long p2), .second, .val (.long p3), .second, .val (.long p4), .second, .val (.int p5), .val (.int (p5 &&& (3 : Int32))), .val (.int ((XT.ushr p5 (2 : Int32)) &&& (3 : Int32))), .val (.long p1), .second, .val (.long p2), .second, .val (.ref b66), .val (.ref b77), .val (.int (1 : Int32)), .val (.int (if p1 = p1 then (if p2 = p2 then (1 : Int32) else 0) else 0)), .val (.int (if p1 = p1 then (if p2 = p2 then (1 : Int32) else 0) else 0))] [(.int (1 : Int32)), (.int (if p1 = p1 then (if p2 = p2 then (1 : Int32) else 0) else 0))]))
      refine own_st (fun _ k => XS.icmpNo X95.here hx rfl (hb hby at_140) rfl (XT.ii_ne_f (by simp [])) k) ?_
      show own_Go p e below s _ _ _ (T95.setTop (mkF m 143 #[.val (.long p1), .second, .val (.long p2), .second, .val (.long p3), .second, .val (.long p4), .second, .val (.int p5), .val (.int (p5 &&& (3 : Int32))), .val (.int ((XT.ushr p5 (2 : Int32)) &&& (3 : Int32))), .val (.long p1), .second, .val (.long p2), .second, .val (.ref b66), .val (.ref b77), .val (.int (1 : Int32)), .val (.int (if p1 = p1 then (if p2 = p2 then (1 : Int32) else 0) else 0)), .val (.int (if p1 = p1 then (if p2 = p2 then (1 : Int32) else 0) else 0))] []))
      refine own_st (fun _ k => XS.iload X95.here hx rfl (hb hby at_143) rfl k) ?_
      show own_Go p e below s _ _ _ (T95.setTop (mkF m 145 #[.val (.long p1), .second, .val (.long p2), .second, .val (.long p3), .second, .val (.long p4), .second, .val (.int p5), .val (.int (p5 &&& (3 : Int32))), .val (.int ((XT.ushr p5 (2 : Int32)) &&& (3 : Int32))), .val (.long p1), .second, .val (.long p2), .second, .val (.ref b66), .val (.ref b77), .val (.int (1 : Int32)), .val (.int (if p1 = p1 then (if p2 = p2 then (1 : Int32) else 0) else 0)), .val (.int (if p1 = p1 then (if p2 = p2 then (1 : Int32) else 0) else 0))] [(.int (if p1 = p1 then (if p2 = p2 then (1 : Int32) else 0) else 0))]))
      refine own_st (fun _ k => XS.iload X95.here hx rfl (hb hby at_145) rfl k) ?_
      show own_Go p e below s _ _ _ (T95.setTop (mkF m 147 #[.val (.long p1), .second, .val (.long p2), .second, .val (.long p3), .second, .val (.long p4), .second, .val (.int p5), .val (.int (p5 &&& (3 : Int32))), .val (.int ((XT.ushr p5 (2 : Int32)) &&& (3 : Int32))), .val (.long p1), .second, .val (.long p2), .second, .val (.ref b66), .val (.ref b77), .val (.int (1 : Int32)), .val (.int (if p1 = p1 then (if p2 = p2 then (1 : Int32) else 0) else 0)), .val (.int (if p1 = p1 then (if p2 = p2 then (1 : Int32) else 0) else 0))] [(.int (1 : Int32)), (.int (if p1 = p1 then (if p2 = p2 then (1 : Int32) else 0) else 0))]))
      refine own_st (fun _ k => XS.icmpNo X95.here hx rfl (hb hby at_147) rfl (XT.ii_ne_f (by simp [])) k) ?_
      show own_Go p e below s _ _ _ (T95.setTop (mkF m 150 #[.val (.long p1), .second, .val (.long p2), .second, .val (.long p3), .second, .val (.long p4), .second, .val (.int p5), .val (.int (p5 &&& (3 : Int32))), .val (.int ((XT.ushr p5 (2 : Int32)) &&& (3 : Int32))), .val (.long p1), .second, .val (.long p2), .second, .val (.ref b66), .val (.ref b77), .val (.int (1 : Int32)), .val (.int (if p1 = p1 then (if p2 = p2 then (1 : Int32) else 0) else 0)), .val (.int (if p1 = p1 then (if p2 = p2 then (1 : Int32) else 0) else 0))] []))
      refine own_st (fun _ k => XT.iconstV X95.here hx rfl (1 : Int32) (hb hby at_150) (by decide) k) ?_
      show own_Go p e below s _ _ _ (T95.setTop (mkF m 151 #[.val (.long p1), .second, .val (.long p2), .second, .val (.long p3), .second, .val (.long p4), .second, .val (.int p5), .val (.int (p5 &&& (3 : Int32))), .val (.int ((XT.ushr p5 (2 : Int32)) &&& (3 : Int32))), .val (.long p1), .second, .val (.long p2), .second, .val (.ref b66), .val (.ref b77), .val (.int (1 : Int32)), .val (.int (if p1 = p1 then (if p2 = p2 then (1 : Int32) else 0) else 0)), .val (.int (if p1 = p1 then (if p2 = p2 then (1 : Int32) else 0) else 0))] [(.int (1 : Int32))]))
      refine own_st (fun _ k => XS.goto X95.here hx rfl (pc0 := 151) (pc' := 155) rfl (hb hby at_151) (by decide) (by decide) k) ?_
      show own_Go p e below s _ _ _ (T95.setTop (mkF m 155 #[.val (.long p1), .second, .val (.long p2), .second, .val (.long p3), .second, .val (.long p4), .second, .val (.int p5), .val (.int (p5 &&& (3 : Int32))), .val (.int ((XT.ushr p5 (2 : Int32)) &&& (3 : Int32))), .val (.long p1), .second, .val (.long p2), .second, .val (.ref b66), .val (.ref b77), .val (.int (1 : Int32)), .val (.int (if p1 = p1 then (if p2 = p2 then (1 : Int32) else 0) else 0)), .val (.int (if p1 = p1 then (if p2 = p2 then (1 : Int32) else 0) else 0))] [(.int (1 : Int32))]))
      refine own_retN X95 hx hlk Bd.returns (t := .boolean) (z' := (1 : Int32)) (by simp) (by decide) (hb hby at_155) (by decide) (by decide) ?_
      rw [eh95]
      exact ⟨N96, rfl⟩
    · refine own_st (fun _ k => XS.ifYes X82.here hx rfl (pc0 := 94) (pc' := 156) rfl (hb hby at_94) rfl (XT.i0_ne_t hc88) (by decide) (by decide) k) ?_
      show own_Go p e below s _ _ _ (T82.setTop (mkF m 156 #[.val (.long p1), .second, .val (.long p2), .second, .val (.long p3), .second, .val (.long p4), .second, .val (.int p5), .val (.int (p5 &&& (3 : Int32))), .val (.int ((XT.ushr p5 (2 : Int32)) &&& (3 : Int32))), .val (.long p1), .second, .val (.long p2), .second, .val (.ref b66), .val (.ref b77), .unset, .unset, .unset] []))
      refine own_st (fun _ k => XS.iload X82.here hx rfl (hb hby at_156) rfl k) ?_
      show own_Go p e below s _ _ _ (T82.setTop (mkF m 158 #[.val (.long p1), .second, .val (.long p2), .second, .val (.long p3), .second, .val (.long p4), .second, .val (.int p5), .val (.int (p5 &&& (3 : Int32))), .val (.int ((XT.ushr p5 (2 : Int32)) &&& (3 : Int32))), .val (.long p1), .second, .val (.long p2), .second, .val (.ref b66), .val (.ref b77), .unset, .unset, .unset] [(.int ((XT.ushr p5 (2 : Int32)) &&& (3 : Int32)))]))
      refine own_st (fun _ k => XT.iconstV X82.here hx rfl (1 : Int32) (hb hby at_158) (by decide) k) ?_
      show own_Go p e below s _ _ _ (T82.setTop (mkF m 159 #[.val (.long p1), .second, .val (.long p2), .second, .val (.long p3), .second, .val (.long p4), .second, .val (.int p5), .val (.int (p5 &&& (3 : Int32))), .val (.int ((XT.ushr p5 (2 : Int32)) &&& (3 : Int32))), .val (.long p1), .second, .val (.long p2), .second, .val (.ref b66), .val (.ref b77), .unset, .unset, .unset] [(.int (1 : Int32)), (.int ((XT.ushr p5 (2 : Int32)) &&& (3 : Int32)))]))
      by_cases hc97 : ((XT.ushr p5 (2 : Int32)) &&& (3 : Int32)) = (1 : Int32)
      · refine own_st (fun _ k => XS.icmpNo X82.here hx rfl (hb hby at_159) rfl (XT.ii_ne_f hc97) k) ?_
        show own_Go p e below s _ _ _ (T82.setTop (mkF m 162 #[.val (.long p1), .second, .val (.long p2), .second, .val (.long p3), .second, .val (.long p4), .second, .val (.int p5), .val (.int (p5 &&& (3 : Int32))), .val (.int ((XT.ushr p5 (2 : Int32)) &&& (3 : Int32))), .val (.long p1), .second, .val (.long p2), .second, .val (.ref b66), .val (.ref b77), .unset, .unset, .unset] []))
        refine own_st (fun _ k => XS.aconstNull X82.here hx rfl (hb hby at_162) k) ?_
        show own_Go p e below s _ _ _ (T82.setTop (mkF m 163 #[.val (.long p1), .second, .val (.long p2), .second, .val (.long p3), .second, .val (.long p4), .second, .val (.int p5), .val (.int (p5 &&& (3 : Int32))), .val (.int ((XT.ushr p5 (2 : Int32)) &&& (3 : Int32))), .val (.long p1), .second, .val (.long p2), .second, .val (.ref b66), .val (.ref b77), .unset, .unset, .unset] [.null]))
        refine own_st (fun _ k => XS.astore X82.here hx rfl (hb hby at_163) rfl rfl (l' := #[.val (.long p1), .second, .val (.long p2), .second, .val (.long p3), .second, .val (.long p4), .second, .val (.int p5), .val (.int (p5 &&& (3 : Int32))), .val (.int ((XT.ushr p5 (2 : Int32)) &&& (3 : Int32))), .val (.long p1), .second, .val (.long p2), .second, .val (.ref b66), .val (.ref b77), .val .null, .unset, .unset]) rfl k) ?_
        show own_Go p e below s _ _ _ (T82.setTop (mkF m 165 #[.val (.long p1), .second, .val (.long p2), .second, .val (.long p3), .second, .val (.long p4), .second, .val (.int p5), .val (.int (p5 &&& (3 : Int32))), .val (.int ((XT.ushr p5 (2 : Int32)) &&& (3 : Int32))), .val (.long p1), .second, .val (.long p2), .second, .val (.ref b66), .val (.ref b77), .val .null, .unset, .unset] []))
        refine own_st (fun _ k => XS.aload X82.here hx rfl (hb hby at_165) rfl rfl k) ?_
        show own_Go p e below s _ _ _ (T82.setTop (mkF m 167 #[.val (.long p1), .second, .val (.long p2), .second, .val (.long p3), .second, .val (.long p4), .second, .val (.int p5), .val (.int (p5 &&& (3 : Int32))), .val (.int ((XT.ushr p5 (2 : Int32)) &&& (3 : Int32))), .val (.long p1), .second, .val (.long p2), .second, .val (.ref b66), .val (.ref b77), .val .null, .unset, .unset] [(.ref b66)]))
        refine own_st (fun _ k => XS.aload X82.here hx rfl (hb hby at_167) rfl rfl k) ?_
        show own_Go p e below s _ _ _ (T82.setTop (mkF m 169 #[.val (.long p1), .second, .val (.long p2), .second, .val (.long p3), .second, .val (.long p4), .second, .val (.int p5), .val (.int (p5 &&& (3 : Int32))), .val (.int ((XT.ushr p5 (2 : Int32)) &&& (3 : Int32))), .val (.long p1), .second, .val (.long p2), .second, .val (.ref b66), .val (.ref b77), .val .null, .unset, .unset] [.null, (.ref b66)]))
        have F99 : Exa Z T82.heap b66 "com/example/epoch/epoch/protocol/record/TimestampedOffset" := ((q72.ext E77).keep K82)
        obtain ⟨cq98, kq98, q98a, q98b, q98c⟩ := isOf hZ rfl F99
        obtain ⟨_, _, ⟨T98, L98, k98, n98⟩, -, X98, ⟨Lc98, hQ98, l98, y98, z98⟩, st98⟩ := X82.virtualBack hx (y := (⟨"com/example/epoch/epoch/protocol/record/TimestampedOffset", "equals", "(Ljava/lang/Object;)Z"⟩ : MethodName)) (z := (⟨"com/example/epoch/epoch/protocol/record/TimestampedOffset", "equals", "(Ljava/lang/Object;)Z"⟩ : MethodName)) hown (mvT hZ (hw _ (List.mem_of_getElem? (i := 13) rfl))) (mvT hZ (hw _ (List.mem_of_getElem? (i := 14) rfl))) (notFace_of_selects (args := #[]) (mvT hZ (hw _ (List.mem_of_getElem? (i := 16) rfl)))) (mvT hZ (hw _ (List.mem_of_getElem? (i := 16) rfl))) (mvT hZ (hw _ (List.mem_of_getElem? (i := 15) rfl))) (by decide) (backOf (W := 0) (own_rm_eqN l Z a0 hw [] b66 T82.heap n0 Zs87 ) hZ (hw _ (List.mem_of_getElem? (i := 17) rfl)) (hw _ (List.mem_of_getElem? (i := 2) rfl)) (by decide) (by decide)) q98a q98c (g := (mkF m 169 #[.val (.long p1), .second, .val (.long p2), .second, .val (.long p3), .second, .val (.long p4), .second, .val (.int p5), .val (.int (p5 &&& (3 : Int32))), .val (.int ((XT.ushr p5 (2 : Int32)) &&& (3 : Int32))), .val (.long p1), .second, .val (.long p2), .second, .val (.ref b66), .val (.ref b77), .val .null, .unset, .unset] [.null, (.ref b66)])) rfl (by rw [hml]; rfl) (Steps.refl _) (argsL := [.null]) (rest := []) (lenOf own_pd3 rfl) rfl (by show 2 * 0 + _ ≤ _; exact Nat.le_of_eq rfl) (hb hby at_169) (fun _ _ => ⟨rfl, rfl, (by decide : 2 + 0 ≤ _), (by decide : 4 + 0 ≤ _)⟩)
        dsimp only [Pt.U, Pt.locs, Pt.cells, Pt.slots] at X98 l98 y98 z98 st98 hQ98
        subst l98 y98 z98
        obtain ⟨N98q, rfl, eh98⟩ := hQ98
        have N100 := Fr.app N86 N98q
        refine own_tr st98 ?_
        show own_Go p e below s _ _ _ (T98.setTop (mkF m 172 #[.val (.long p1), .second, .val (.long p2), .second, .val (.long p3), .second, .val (.long p4), .second, .val (.int p5), .val (.int (p5 &&& (3 : Int32))), .val (.int ((XT.ushr p5 (2 : Int32)) &&& (3 : Int32))), .val (.long p1), .second, .val (.long p2), .second, .val (.ref b66), .val (.ref b77), .val .null, .unset, .unset] [(.int (0 : Int32))]))
        refine own_st (fun _ k => XS.ifNo X98.here hx rfl (hb hby at_172) rfl (XT.i0_ne_f (by decide)) k) ?_
        show own_Go p e below s _ _ _ (T98.setTop (mkF m 175 #[.val (.long p1), .second, .val (.long p2), .second, .val (.long p3), .second, .val (.long p4), .second, .val (.int p5), .val (.int (p5 &&& (3 : Int32))), .val (.int ((XT.ushr p5 (2 : Int32)) &&& (3 : Int32))), .val (.long p1), .second, .val (.long p2), .second, .val (.ref b66), .val (.ref b77), .val .null, .unset, .unset] []))
        refine own_st (fun _ k => XT.iconstV X98.here hx rfl (1 : Int32) (hb hby at_175) (by decide) k) ?_
        show own_Go p e below s _ _ _ (T98.setTop (mkF m 176 #[.val (.long p1), .second, .val (.long p2), .second, .val (.long p3), .second, .val (.long p4), .second, .val (.int p5), .val (.int (p5 &&& (3 : Int32))), .val (.int ((XT.ushr p5 (2 : Int32)) &&& (3 : Int32))), .val (.long p1), .second, .val (.long p2), .second, .val (.ref b66), .val (.ref b77), .val .null, .unset, .unset] [(.int (1 : Int32))]))
        refine own_st (fun _ k => XS.goto X98.here hx rfl (pc0 := 176) (pc' := 180) rfl (hb hby at_176) (by decide) (by decide) k) ?_
        show own_Go p e below s _ _ _ (T98.setTop (mkF m 180 #[.val (.long p1), .second, .val (.long p2), .second, .val (.long p3), .second, .val (.long p4), .second, .val (.int p5), .val (.int (p5 &&& (3 : Int32))), .val (.int ((XT.ushr p5 (2 : Int32)) &&& (3 : Int32))), .val (.long p1), .second, .val (.long p2), .second, .val (.ref b66), .val (.ref b77), .val .null, .unset, .unset] [(.int (1 : Int32))]))
        refine own_retN X98 hx hlk Bd.returns (t := .boolean) (z' := (1 : Int32)) (by simp) (by decide) (hb hby at_180) (by decide) (by decide) ?_
        rw [eh98]
        exact ⟨N100, rfl⟩
      · refine own_st (fun _ k => XS.icmpYes X82.here hx rfl (pc0 := 159) (pc' := 181) rfl (hb hby at_159) rfl (XT.ii_ne_t hc97) (by decide) (by decide) k) ?_
        show own_Go p e below s _ _ _ (T82.setTop (mkF m 181 #[.val (.long p1), .second, .val (.long p2), .second, .val (.long p3), .second, .val (.long p4), .second, .val (.int p5), .val (.int (p5 &&& (3 : Int32))), .val (.int ((XT.ushr p5 (2 : Int32)) &&& (3 : Int32))), .val (.long p1), .second, .val (.long p2), .second, .val (.ref b66), .val (.ref b77), .unset, .unset, .unset] []))
        refine own_st (fun _ k => XS.iload X82.here hx rfl (hb hby at_181) rfl k) ?_
        show own_Go p e below s _ _ _ (T82.setTop (mkF m 183 #[.val (.long p1), .second, .val (.long p2), .second, .val (.long p3), .second, .val (.long p4), .second, .val (.int p5), .val (.int (p5 &&& (3 : Int32))), .val (.int ((XT.ushr p5 (2 : Int32)) &&& (3 : Int32))), .val (.long p1), .second, .val (.long p2), .second, .val (.ref b66), .val (.ref b77), .unset, .unset, .unset] [(.int ((XT.ushr p5 (2 : Int32)) &&& (3 : Int32)))]))
        refine own_st (fun _ k => XT.iconstV X82.here hx rfl (2 : Int32) (hb hby at_183) (by decide) k) ?_
        show own_Go p e below s _ _ _ (T82.setTop (mkF m 184 #[.val (.long p1), .second, .val (.long p2), .second, .val (.long p3), .second, .val (.long p4), .second, .val (.int p5), .val (.int (p5 &&& (3 : Int32))), .val (.int ((XT.ushr p5 (2 : Int32)) &&& (3 : Int32))), .val (.long p1), .second, .val (.long p2), .second, .val (.ref b66), .val (.ref b77), .unset, .unset, .unset] [(.int (2 : Int32)), (.int ((XT.ushr p5 (2 : Int32)) &&& (3 : Int32)))]))
        by_cases hc101 : ((XT.ushr p5 (2 : Int32)) &&& (3 : Int32)) = (2 : Int32)
        · refine own_st (fun _ k => XS.icmpNo X82.here hx rfl (hb hby at_184) rfl (XT.ii_ne_f hc101) k) ?_
          show own_Go p e below s _ _ _ (T82.setTop (mkF m 187 #[.val (.long p1), .second, .val (.long p2), .second, .val (.long p3), .second, .val (.long p4), .second, .val (.int p5), .val (.int (p5 &&& (3 : Int32))), .val (.int ((XT.ushr p5 (2 : Int32)) &&& (3 : Int32))), .val (.long p1), .second, .val (.long p2), .second, .val (.ref b66), .val (.ref b77), .unset, .unset, .unset] []))
          refine own_st (fun _ k => XT.lloadN X82.here hx rfl (hb hby at_187) rfl k) ?_
          show own_Go p e below s _ _ _ (T82.setTop (mkF m 188 #[.val (.long p1), .second, .val (.long p2), .second, .val (.long p3), .second, .val (.long p4), .second, .val (.int p5), .val (.int (p5 &&& (3 : Int32))), .val (.int ((XT.ushr p5 (2 : Int32)) &&& (3 : Int32))), .val (.long p1), .second, .val (.long p2), .second, .val (.ref b66), .val (.ref b77), .unset, .unset, .unset] [(.long p1)]))
          have O103 : Old Z n0 T82.heap := ((((O0.ext E66).keep K71 (allS g68 all0)).ext E77).keep K82 (allS g79 all0))
          obtain ⟨_, _, ⟨T102, L102, k102, n102⟩, -, X102, ⟨Lc102, hQ102, l102, y102, z102⟩, st102⟩ := Jvm.LawKit.callS X82 hx (y := (⟨"java/lang/Long", "valueOf", "(J)Ljava/lang/Long;"⟩ : MethodName)) hown (mvT hZ (hw _ (List.mem_of_getElem? (i := 20) rfl))) (mvT hZ (hw _ (List.mem_of_getElem? (i := 21) rfl))) (mvT hZ (hw _ (List.mem_of_getElem? (i := 22) rfl))) (mvT hZ (hw _ (List.mem_of_getElem? (i := 23) rfl))) (by decide) (backOf (W := 0) (own_rm_valueOfJ l Z a0 hw [] p1 a_cacheJ T82.heap n0 Zs87 O103 S_cacheJ BxJ) hZ (hw _ (List.mem_of_getElem? (i := 23) rfl)) (hw _ (List.mem_of_getElem? (i := 22) rfl)) (by decide) (by decide)) (g := (mkF m 188 #[.val (.long p1), .second, .val (.long p2), .second, .val (.long p3), .second, .val (.long p4), .second, .val (.int p5), .val (.int (p5 &&& (3 : Int32))), .val (.int ((XT.ushr p5 (2 : Int32)) &&& (3 : Int32))), .val (.long p1), .second, .val (.long p2), .second, .val (.ref b66), .val (.ref b77), .unset, .unset, .unset] [(.long p1)])) rfl (by rw [hml]; rfl) (argsL := [(.long p1)]) (rest := []) (lenOf own_pd4 rfl) rfl (by show 2 * 0 + _ ≤ _; exact Nat.le_of_eq rfl) (hb hby at_188) (fun _ _ => ⟨rfl, rfl, (by decide : 2 + 1 ≤ _), (by decide : 4 + 1 ≤ _)⟩)
          dsimp only [Pt.U, Pt.locs, Pt.cells, Pt.slots] at X102 l102 y102 z102 st102 hQ102
          subst l102 y102 z102
          obtain ⟨x104, N102q, rfl, K102, q105, q106⟩ := hQ102
          have N107 := Fr.app N86 N102q
          refine own_st st102 ?_
          have Zs108 : n0 ≤ T102.heap.size := Nat.le_trans Zs87 K102.1
          show own_Go p e below s _ _ _ (T102.setTop (mkF m 191 #[.val (.long p1), .second, .val (.long p2), .second, .val (.long p3), .second, .val (.long p4), .second, .val (.int p5), .val (.int (p5 &&& (3 : Int32))), .val (.int ((XT.ushr p5 (2 : Int32)) &&& (3 : Int32))), .val (.long p1), .second, .val (.long p2), .second, .val (.ref b66), .val (.ref b77), .unset, .unset, .unset] [(.ref x104)]))
          refine own_st (fun _ k => XS.astore X102.here hx rfl (hb hby at_191) rfl rfl (l' := #[.val (.long p1), .second, .val (.long p2), .second, .val (.long p3), .second, .val (.long p4), .second, .val (.int p5), .val (.int (p5 &&& (3 : Int32))), .val (.int ((XT.ushr p5 (2 : Int32)) &&& (3 : Int32))), .val (.long p1), .second, .val (.long p2), .second, .val (.ref b66), .val (.ref b77), .val (.ref x104), .unset, .unset]) rfl k) ?_
          show own_Go p e below s _ _ _ (T102.setTop (mkF m 193 #[.val (.long p1), .second, .val (.long p2), .second, .val (.long p3), .second, .val (.long p4), .second, .val (.int p5), .val (.int (p5 &&& (3 : Int32))), .val (.int ((XT.ushr p5 (2 : Int32)) &&& (3 : Int32))), .val (.long p1), .second, .val (.long p2), .second, .val (.ref b66), .val (.ref b77), .val (.ref x104), .unset, .unset] []))
          refine own_st (fun _ k => XS.aload X102.here hx rfl (hb hby at_193) rfl rfl k) ?_
          show own_Go p e below s _ _ _ (T102.setTop (mkF m 195 #[.val (.long p1), .second, .val (.long p2), .second, .val (.long p3), .second, .val (.long p4), .second, .val (.int p5), .val (.int (p5 &&& (3 : Int32))), .val (.int ((XT.ushr p5 (2 : Int32)) &&& (3 : Int32))), .val (.long p1), .second, .val (.long p2), .second, .val (.ref b66), .val (.ref b77), .val (.ref x104), .unset, .unset] [(.ref b66)]))
          refine own_st (fun _ k => XS.aload X102.here hx rfl (hb hby at_195) rfl rfl k) ?_
          show own_Go p e below s _ _ _ (T102.setTop (mkF m 197 #[.val (.long p1), .second, .val (.long p2), .second, .val (.long p3), .second, .val (.long p4), .second, .val (.int p5), .val (.int (p5 &&& (3 : Int32))), .val (.int ((XT.ushr p5 (2 : Int32)) &&& (3 : Int32))), .val (.long p1), .second, .val (.long p2), .second, .val (.ref b66), .val (.ref b77), .val (.ref x104), .unset, .unset] [(.ref x104), (.ref b66)]))
          have F110 : Exa Z T102.heap b66 "com/example/epoch/epoch/protocol/record/TimestampedOffset" := (((q72.ext E77).keep K82).keep K102)
          obtain ⟨cq109, kq109, q109a, q109b, q109c⟩ := isOf hZ rfl F110
          obtain ⟨_, _, ⟨T109, L109, k109, n109⟩, -, X109, ⟨Lc109, hQ109, l109, y109, z109⟩, st109⟩ := X102.virtualBack hx (y := (⟨"com/example/epoch/epoch/protocol/record/TimestampedOffset", "equals", "(Ljava/lang/Object;)Z"⟩ : MethodName)) (z := (⟨"com/example/epoch/epoch/protocol/record/TimestampedOffset", "equals", "(Ljava/lang/Object;)Z"⟩ : MethodName)) hown (mvT hZ (hw _ (List.mem_of_getElem? (i := 13) rfl))) (mvT hZ (hw _ (List.mem_of_getElem? (i := 14) rfl))) (notFace_of_selects (args := #[]) (mvT hZ (hw _ (List.mem_of_getElem? (i := 16) rfl)))) (mvT hZ (hw _ (List.mem_of_getElem? (i := 16) rfl))) (mvT hZ (hw _ (List.mem_of_getElem? (i := 15) rfl))) (by decide) (backOf (W := 0) (own_rm_eqL l Z a0 hw [] b66 x104 T102.heap n0 Zs108 q105) hZ (hw _ (List.mem_of_getElem? (i := 17) rfl)) (hw _ (List.mem_of_getElem? (i := 2) rfl)) (by decide) (by decide)) q109a q109c (g := (mkF m 197 #[.val (.long p1), .second, .val (.long p2), .second, .val (.long p3), .second, .val (.long p4), .second, .val (.int p5), .val (.int (p5 &&& (3 : Int32))), .val (.int ((XT.ushr p5 (2 : Int32)) &&& (3 : Int32))), .val (.long p1), .second, .val (.long p2), .second, .val (.ref b66), .val (.ref b77), .val (.ref x104), .unset, .unset] [(.ref x104), (.ref b66)])) rfl (by rw [hml]; rfl) (Steps.refl _) (argsL := [(.ref x104)]) (rest := []) (lenOf own_pd3 rfl) rfl (by show 2 * 0 + _ ≤ _; exact Nat.le_of_eq rfl) (hb hby at_197) (fun _ _ => ⟨rfl, rfl, (by decide : 3 + 0 ≤ _), (by decide : 5 + 0 ≤ _)⟩)
          dsimp only [Pt.U, Pt.locs, Pt.cells, Pt.slots] at X109 l109 y109 z109 st109 hQ109
          subst l109 y109 z109
          obtain ⟨N109q, rfl, eh109⟩ := hQ109
          have N111 := Fr.app N107 N109q
          refine own_tr st109 ?_
          show own_Go p e below s _ _ _ (T109.setTop (mkF m 200 #[.val (.long p1), .second, .val (.long p2), .second, .val (.long p3), .second, .val (.long p4), .second, .val (.int p5), .val (.int (p5 &&& (3 : Int32))), .val (.int ((XT.ushr p5 (2 : Int32)) &&& (3 : Int32))), .val (.long p1), .second, .val (.long p2), .second, .val (.ref b66), .val (.ref b77), .val (.ref x104), .unset, .unset] [(.int (0 : Int32))]))
          refine own_st (fun _ k => XS.ifNo X109.here hx rfl (hb hby at_200) rfl (XT.i0_ne_f (by decide)) k) ?_
          show own_Go p e below s _ _ _ (T109.setTop (mkF m 203 #[.val (.long p1), .second, .val (.long p2), .second, .val (.long p3), .second, .val (.long p4), .second, .val (.int p5), .val (.int (p5 &&& (3 : Int32))), .val (.int ((XT.ushr p5 (2 : Int32)) &&& (3 : Int32))), .val (.long p1), .second, .val (.long p2), .second, .val (.ref b66), .val (.ref b77), .val (.ref x104), .unset, .unset] []))
          refine own_st (fun _ k => XT.iconstV X109.here hx rfl (1 : Int32) (hb hby at_203) (by decide) k) ?_
          show own_Go p e below s _ _ _ (T109.setTop (mkF m 204 #[.val (.long p1), .second, .val (.long p2), .second, .val (.long p3), .second, .val (.long p4), .second, .val (.int p5), .val (.int (p5 &&& (3 : Int32))), .val (.int ((XT.ushr p5 (2 : Int32)) &&& (3 : Int32))), .val (.long p1), .second, .val (.long p2), .second, .val (.ref b66), .val (.ref b77), .val (.ref x104), .unset, .unset] [(.int (1 : Int32))]))
          refine own_st (fun _ k => XS.goto X109.here hx rfl (pc0 := 204) (pc' := 208) rfl (hb hby at_204) (by decide) (by decide) k) ?_
          show own_Go p e below s _ _ _ (T109.setTop (mkF m 208 #[.val (.long p1), .second, .val (.long p2), .second, .val (.long p3), .second, .val (.long p4), .second, .val (.int p5), .val (.int (p5 &&& (3 : Int32))), .val (.int ((XT.ushr p5 (2 : Int32)) &&& (3 : Int32))), .val (.long p1), .second, .val (.long p2), .second, .val (.ref b66), .val (.ref b77), .val (.ref x104), .unset, .unset] [(.int (1 : Int32))]))
          refine own_retN X109 hx hlk Bd.returns (t := .boolean) (z' := (1 : Int32)) (by simp) (by decide) (hb hby at_208) (by decide) (by decide) ?_
          rw [eh109]
          exact ⟨N111, rfl⟩
        · refine own_st (fun _ k => XS.icmpYes X82.here hx rfl (pc0 := 184) (pc' := 209) rfl (hb hby at_184) rfl (XT.ii_ne_t hc101) (by decide) (by decide) k) ?_
          show own_Go p e below s _ _ _ (T82.setTop (mkF m 209 #[.val (.long p1), .second, .val (.long p2), .second, .val (.long p3), .second, .val (.long p4), .second, .val (.int p5), .val (.int (p5 &&& (3 : Int32))), .val (.int ((XT.ushr p5 (2 : Int32)) &&& (3 : Int32))), .val (.long p1), .second, .val (.long p2), .second, .val (.ref b66), .val (.ref b77), .unset, .unset, .unset] []))
          refine own_st (fun _ k => XS.aload X82.here hx rfl (hb hby at_209) rfl rfl k) ?_
          show own_Go p e below s _ _ _ (T82.setTop (mkF m 211 #[.val (.long p1), .second, .val (.long p2), .second, .val (.long p3), .second, .val (.long p4), .second, .val (.int p5), .val (.int (p5 &&& (3 : Int32))), .val (.int ((XT.ushr p5 (2 : Int32)) &&& (3 : Int32))), .val (.long p1), .second, .val (.long p2), .second, .val (.ref b66), .val (.ref b77), .unset, .unset, .unset] [(.ref b66)]))
          refine own_st (fun _ k => XS.astore X82.here hx rfl (hb hby at_211) rfl rfl (l' := #[.val (.long p1), .second, .val (.long p2), .second, .val (.long p3), .second, .val (.long p4), .second, .val (.int p5), .val (.int (p5 &&& (3 : Int32))), .val (.int ((XT.ushr p5 (2 : Int32)) &&& (3 : Int32))), .val (.long p1), .second, .val (.long p2), .second, .val (.ref b66), .val (.ref b77), .val (.ref b66), .unset, .unset]) rfl k) ?_
          show own_Go p e below s _ _ _ (T82.setTop (mkF m 213 #[.val (.long p1), .second, .val (.long p2), .second, .val (.long p3), .second, .val (.long p4), .second, .val (.int p5), .val (.int (p5 &&& (3 : Int32))), .val (.int ((XT.ushr p5 (2 : Int32)) &&& (3 : Int32))), .val (.long p1), .second, .val (.long p2), .second, .val (.ref b66), .val (.ref b77), .val (.ref b66), .unset, .unset] []))
          refine own_st (fun _ k => XS.aload X82.here hx rfl (hb hby at_213) rfl rfl k) ?_
          show own_Go p e below s _ _ _ (T82.setTop (mkF m 215 #[.val (.long p1), .second, .val (.long p2), .second, .val (.long p3), .second, .val (.long p4), .second, .val (.int p5), .val (.int (p5 &&& (3 : Int32))), .val (.int ((XT.ushr p5 (2 : Int32)) &&& (3 : Int32))), .val (.long p1), .second, .val (.long p2), .second, .val (.ref b66), .val (.ref b77), .val (.ref b66), .unset, .unset] [(.ref b66)]))
          refine own_st (fun _ k => XS.aload X82.here hx rfl (hb hby at_215) rfl rfl k) ?_
          show own_Go p e below s _ _ _ (T82.setTop (mkF m 217 #[.val (.long p1), .second, .val (.long p2), .second, .val (.long p3), .second, .val (.long p4), .second, .val (.int p5), .val (.int (p5 &&& (3 : Int32))), .val (.int ((XT.ushr p5 (2 : Int32)) &&& (3 : Int32))), .val (.long p1), .second, .val (.long p2), .second, .val (.ref b66), .val (.ref b77), .val (.ref b66), .unset, .unset] [(.ref b66), (.ref b66)]))
          have F113 : Exa Z T82.heap b66 "com/example/epoch/epoch/protocol/record/TimestampedOffset" := ((q72.ext E77).keep K82)
          have ne114 : b66 ≠ b77 := Nat.ne_of_lt (Nat.lt_of_lt_of_le (Nat.lt_of_lt_of_le A66.lt K71.1) (Nat.le_of_eq g77.symm))
          have F115 : Fld Z T82.heap b66 "com/example/epoch/epoch/protocol/record/TimestampedOffset" "timestamp" "J" (.long p1) := ((q73.ext E77).keep K82 (ninS ne114 nin0))
          have F116 : Fld Z T82.heap b66 "com/example/epoch/epoch/protocol/record/TimestampedOffset" "offset" "J" (.long p2) := ((q74.ext E77).keep K82 (ninS ne114 nin0))
          obtain ⟨cq112, kq112, q112a, q112b, q112c⟩ := isOf hZ rfl F113
          obtain ⟨_, _, ⟨T112, L112, k112, n112⟩, -, X112, ⟨Lc112, hQ112, l112, y112, z112⟩, st112⟩ := X82.virtualBack hx (y := (⟨"com/example/epoch/epoch/protocol/record/TimestampedOffset", "equals", "(Ljava/lang/Object;)Z"⟩ : MethodName)) (z := (⟨"com/example/epoch/epoch/protocol/record/TimestampedOffset", "equals", "(Ljava/lang/Object;)Z"⟩ : MethodName)) hown (mvT hZ (hw _ (List.mem_of_getElem? (i := 13) rfl))) (mvT hZ (hw _ (List.mem_of_getElem? (i := 14) rfl))) (notFace_of_selects (args := #[]) (mvT hZ (hw _ (List.mem_of_getElem? (i := 16) rfl)))) (mvT hZ (hw _ (List.mem_of_getElem? (i := 16) rfl))) (mvT hZ (hw _ (List.mem_of_getElem? (i := 15) rfl))) (by decide) (backOf (W := 0) (own_rm_eqA l Z a0 hw [] b66 b66 p1 p2 p1 p2 T82.heap n0 Zs87 F113 F115 F116 F115 F116) hZ (hw _ (List.mem_of_getElem? (i := 17) rfl)) (hw _ (List.mem_of_getElem? (i := 2) rfl)) (by decide) (by decide)) q112a q112c (g := (mkF m 217 #[.val (.long p1), .second, .val (.long p2), .second, .val (.long p3), .second, .val (.long p4), .second, .val (.int p5), .val (.int (p5 &&& (3 : Int32))), .val (.int ((XT.ushr p5 (2 : Int32)) &&& (3 : Int32))), .val (.long p1), .second, .val (.long p2), .second, .val (.ref b66), .val (.ref b77), .val (.ref b66), .unset, .unset] [(.ref b66), (.ref b66)])) rfl (by rw [hml]; rfl) (Steps.refl _) (argsL := [(.ref b66)]) (rest := []) (lenOf own_pd3 rfl) rfl (by show 2 * 0 + _ ≤ _; exact Nat.le_of_eq rfl) (hb hby at_217) (fun _ _ => ⟨rfl, rfl, (by decide : 2 + 0 ≤ _), (by decide : 4 + 0 ≤ _)⟩)
          dsimp only [Pt.U, Pt.locs, Pt.cells, Pt.slots] at X112 l112 y112 z112 st112 hQ112
          subst l112 y112 z112
          obtain ⟨N112q, rfl, eh112⟩ := hQ112
          have N117 := Fr.app N86 N112q
          refine own_tr st112 ?_
          show own_Go p e below s _ _ _ (T112.setTop (mkF m 220 #[.val (.long p1), .second, .val (.long p2), .second, .val (.long p3), .second, .val (.long p4), .second, .val (.int p5), .val (.int (p5 &&& (3 : Int32))), .val (.int ((XT.ushr p5 (2 : Int32)) &&& (3 : Int32))), .val (.long p1), .second, .val (.long p2), .second, .val (.ref b66), .val (.ref b77), .val (.ref b66), .unset, .unset] [(.int (if p1 = p1 then (if p2 = p2 then (1 : Int32) else 0) else 0))]))
          refine own_retN X112 hx hlk Bd.returns (t := .boolean) (z' := 1) (by simp) (by simp [nar]) (hb hby at_220) (by decide) (by decide) ?_
          rw [eh112]
          exact ⟨N117, rfl⟩
  · refine own_st (fun _ k => XS.ifYes X0.here hx rfl (pc0 := 16) (pc' := 28) rfl (hb hby at_16) rfl (XT.i0_ne_t hc65) (by decide) (by decide) k) ?_
    show own_Go p e below s _ _ _ (s₁.setTop (mkF m 28 #[.val (.long p1), .second, .val (.long p2), .second, .val (.long p3), .second, .val (.long p4), .second, .val (.int p5), .val (.int (p5 &&& (3 : Int32))), .val (.int ((XT.ushr p5 (2 : Int32)) &&& (3 : Int32))), .unset, .unset, .unset, .unset, .unset, .unset, .unset, .unset, .unset] []))
    refine own_st (fun _ k => XS.iload X0.here hx rfl (hb hby at_28) rfl k) ?_
    show own_Go p e below s _ _ _ (s₁.setTop (mkF m 30 #[.val (.long p1), .second, .val (.long p2), .second, .val (.long p3), .second, .val (.long p4), .second, .val (.int p5), .val (.int (p5 &&& (3 : Int32))), .val (.int ((XT.ushr p5 (2 : Int32)) &&& (3 : Int32))), .unset, .unset, .unset, .unset, .unset, .unset, .unset, .unset, .unset] [(.int (p5 &&& (3 : Int32)))]))
    refine own_st (fun _ k => XT.iconstV X0.here hx rfl (1 : Int32) (hb hby at_30) (by decide) k) ?_
    show own_Go p e below s _ _ _ (s₁.setTop (mkF m 31 #[.val (.long p1), .second, .val (.long p2), .second, .val (.long p3), .second, .val (.long p4), .second, .val (.int p5), .val (.int (p5 &&& (3 : Int32))), .val (.int ((XT.ushr p5 (2 : Int32)) &&& (3 : Int32))), .unset, .unset, .unset, .unset, .unset, .unset, .unset, .unset, .unset] [(.int (1 : Int32)), (.int (p5 &&& (3 : Int32)))]))
    by_cases hc118 : (p5 &&& (3 : Int32)) = (1 : Int32)
    · refine own_st (fun _ k => XS.icmpNo X0.here hx rfl (hb hby at_31) rfl (XT.ii_ne_f hc118) k) ?_
      show own_Go p e below s _ _ _ (s₁.setTop (mkF m 34 #[.val (.long p1), .second, .val (.long p2), .second, .val (.long p3), .second, .val (.long p4), .second, .val (.int p5), .val (.int (p5 &&& (3 : Int32))), .val (.int ((XT.ushr p5 (2 : Int32)) &&& (3 : Int32))), .unset, .unset, .unset, .unset, .unset, .unset, .unset, .unset, .unset] []))
      refine own_st (fun _ k => XT.lloadN X0.here hx rfl (hb hby at_34) rfl k) ?_
      show own_Go p e below s _ _ _ (s₁.setTop (mkF m 35 #[.val (.long p1), .second, .val (.long p2), .second, .val (.long p3), .second, .val (.long p4), .second, .val (.int p5), .val (.int (p5 &&& (3 : Int32))), .val (.int ((XT.ushr p5 (2 : Int32)) &&& (3 : Int32))), .unset, .unset, .unset, .unset, .unset, .unset, .unset, .unset, .unset] [(.long p1)]))
      refine own_st (fun _ k => XT.lstore X0.here hx rfl (hb hby at_35) rfl (l' := #[.val (.long p1), .second, .val (.long p2), .second, .val (.long p3), .second, .val (.long p4), .second, .val (.int p5), .val (.int (p5 &&& (3 : Int32))), .val (.int ((XT.ushr p5 (2 : Int32)) &&& (3 : Int32))), .val (.long p1), .second, .unset, .unset, .unset, .unset, .unset, .unset, .unset]) rfl k) ?_
      show own_Go p e below s _ _ _ (s₁.setTop (mkF m 37 #[.val (.long p1), .second, .val (.long p2), .second, .val (.long p3), .second, .val (.long p4), .second, .val (.int p5), .val (.int (p5 &&& (3 : Int32))), .val (.int ((XT.ushr p5 (2 : Int32)) &&& (3 : Int32))), .val (.long p1), .second, .unset, .unset, .unset, .unset, .unset, .unset, .unset] []))
      refine own_st (fun _ k => XT.lload X0.here hx rfl (hb hby at_37) rfl k) ?_
      show own_Go p e below s _ _ _ (s₁.setTop (mkF m 39 #[.val (.long p1), .second, .val (.long p2), .second, .val (.long p3), .second, .val (.long p4), .second, .val (.int p5), .val (.int (p5 &&& (3 : Int32))), .val (.int ((XT.ushr p5 (2 : Int32)) &&& (3 : Int32))), .val (.long p1), .second, .unset, .unset, .unset, .unset, .unset, .unset, .unset] [(.long p4)]))
      refine own_st (fun _ k => XT.lstore X0.here hx rfl (hb hby at_39) rfl (l' := #[.val (.long p1), .second, .val (.long p2), .second, .val (.long p3), .second, .val (.long p4), .second, .val (.int p5), .val (.int (p5 &&& (3 : Int32))), .val (.int ((XT.ushr p5 (2 : Int32)) &&& (3 : Int32))), .val (.long p1), .second, .val (.long p4), .second, .unset, .unset, .unset, .unset, .unset]) rfl k) ?_
      show own_Go p e below s _ _ _ (s₁.setTop (mkF m 41 #[.val (.long p1), .second, .val (.long p2), .second, .val (.long p3), .second, .val (.long p4), .second, .val (.int p5), .val (.int (p5 &&& (3 : Int32))), .val (.int ((XT.ushr p5 (2 : Int32)) &&& (3 : Int32))), .val (.long p1), .second, .val (.long p4), .second, .unset, .unset, .unset, .unset, .unset] []))
      refine own_st (fun _ k => XS.goto X0.here hx rfl (pc0 := 41) (pc' := 68) rfl (hb hby at_41) (by decide) (by decide) k) ?_
      show own_Go p e below s _ _ _ (s₁.setTop (mkF m 68 #[.val (.long p1), .second, .val (.long p2), .second, .val (.long p3), .second, .val (.long p4), .second, .val (.int p5), .val (.int (p5 &&& (3 : Int32))), .val (.int ((XT.ushr p5 (2 : Int32)) &&& (3 : Int32))), .val (.long p1), .second, .val (.long p4), .second, .unset, .unset, .unset, .unset, .unset] []))
      obtain ⟨T119, h119, X119, e119, E119, A119, D119, -, st119⟩ := newO X0 hx hZ hown (hw _ (List.mem_of_getElem? (i := 0) rfl)) (hw _ (List.mem_of_getElem? (i := 1) rfl)) (hw _ (List.mem_of_getElem? (i := 2) rfl)) e0 (g := (mkF m 68 #[.val (.long p1), .second, .val (.long p2), .second, .val (.long p3), .second, .val (.long p4), .second, .val (.int p5), .val (.int (p5 &&& (3 : Int32))), .val (.int ((XT.ushr p5 (2 : Int32)) &&& (3 : Int32))), .val (.long p1), .second, .val (.long p4), .second, .unset, .unset, .unset, .unset, .unset] [])) rfl (hb hby at_68) (by decide) (by decide)
      obtain ⟨b119, g119⟩ : ∃ z, z = h0.size := ⟨_, rfl⟩
      rw [← g119] at A119 D119 st119
      refine own_st st119 ?_
      have Zs120 : n0 ≤ h119.size := Nat.le_trans Z0 E119.1
      have g121 : n0 ≤ b119 := Nat.le_trans Z0 (Nat.le_of_eq g119.symm)
      have F122 : Fld Z h119 b119 "com/example/epoch/epoch/protocol/record/TimestampedOffset" "timestamp" "J" (.long (0 : Int64)) := D119 (Or.inr (hw _ (List.mem_of_getElem? (i := 10) rfl))) (ty := .long) (by decide)
      have F123 : Fld Z h119 b119 "com/example/epoch/epoch/protocol/record/TimestampedOffset" "offset" "J" (.long (0 : Int64)) := D119 (Or.inr (hw _ (List.mem_of_getElem? (i := 12) rfl))) (ty := .long) (by decide)
      show own_Go p e below s _ _ _ (T119.setTop (mkF m 71 #[.val (.long p1), .second, .val (.long p2), .second, .val (.long p3), .second, .val (.long p4), .second, .val (.int p5), .val (.int (p5 &&& (3 : Int32))), .val (.int ((XT.ushr p5 (2 : Int32)) &&& (3 : Int32))), .val (.long p1), .second, .val (.long p4), .second, .unset, .unset, .unset, .unset, .unset] [(.ref b119)]))
      refine own_st (fun _ k => XS.dup X119.here hx rfl (hb hby at_71) rfl rfl k) ?_
      show own_Go p e below s _ _ _ (T119.setTop (mkF m 72 #[.val (.long p1), .second, .val (.long p2), .second, .val (.long p3), .second, .val (.long p4), .second, .val (.int p5), .val (.int (p5 &&& (3 : Int32))), .val (.int ((XT.ushr p5 (2 : Int32)) &&& (3 : Int32))), .val (.long p1), .second, .val (.long p4), .second, .unset, .unset, .unset, .unset, .unset] [(.ref b119), (.ref b119)]))
      refine own_st (fun _ k => XT.lloadN X119.here hx rfl (hb hby at_72) rfl k) ?_
      show own_Go p e below s _ _ _ (T119.setTop (mkF m 73 #[.val (.long p1), .second, .val (.long p2), .second, .val (.long p3), .second, .val (.long p4), .second, .val (.int p5), .val (.int (p5 &&& (3 : Int32))), .val (.int ((XT.ushr p5 (2 : Int32)) &&& (3 : Int32))), .val (.long p1), .second, .val (.long p4), .second, .unset, .unset, .unset, .unset, .unset] [(.long p1), (.ref b119), (.ref b119)]))
      refine own_st (fun _ k => XT.lloadN X119.here hx rfl (hb hby at_73) rfl k) ?_
      show own_Go p e below s _ _ _ (T119.setTop (mkF m 74 #[.val (.long p1), .second, .val (.long p2), .second, .val (.long p3), .second, .val (.long p4), .second, .val (.int p5), .val (.int (p5 &&& (3 : Int32))), .val (.int ((XT.ushr p5 (2 : Int32)) &&& (3 : Int32))), .val (.long p1), .second, .val (.long p4), .second, .unset, .unset, .unset, .unset, .unset] [(.long p2), (.long p1), (.ref b119), (.ref b119)]))
      obtain ⟨_, _, ⟨T124, L124, k124, n124⟩, -, X124, ⟨Lc124, hQ124, l124, y124, z124⟩, st124⟩ := X119.specialBack hx (y := (⟨"com/example/epoch/epoch/protocol/record/TimestampedOffset", "<init>", "(JJ)V"⟩ : MethodName)) rfl hown (mvT hZ (hw _ (List.mem_of_getElem? (i := 3) rfl))) (mvT hZ (hw _ (List.mem_of_getElem? (i := 4) rfl))) (mvT hZ (hw _ (List.mem_of_getElem? (i := 5) rfl))) (by decide) (backOf (W := 1) (own_rm_init l Z a0 hw [] b119 p1 p2 h119 n0 Zs120 A119 F122 F123 g121) hZ (hw _ (List.mem_of_getElem? (i := 5) rfl)) (hw _ (List.mem_of_getElem? (i := 2) rfl)) (by decide) (by decide)) (g := (mkF m 74 #[.val (.long p1), .second, .val (.long p2), .second, .val (.long p3), .second, .val (.long p4), .second, .val (.int p5), .val (.int (p5 &&& (3 : Int32))), .val (.int ((XT.ushr p5 (2 : Int32)) &&& (3 : Int32))), .val (.long p1), .second, .val (.long p4), .second, .unset, .unset, .unset, .unset, .unset] [(.long p2), (.long p1), (.ref b119), (.ref b119)])) rfl (by rw [hml]; rfl) (Steps.refl _) (a := b119) (argsL := [(.long p1), (.long p2)]) (rest := [(.ref b119)]) (lenOf own_pd2 rfl) rfl (by show 2 * 0 + _ ≤ _; exact Nat.le_of_eq rfl) (hb hby at_74) (fun _ _ => ⟨rfl, e119, (by decide : 1 + 0 ≤ _), (by decide : 2 + 0 ≤ _)⟩)
      dsimp only [Pt.U, Pt.locs, Pt.cells, Pt.slots] at X124 l124 y124 z124 st124 hQ124
      subst l124 y124 z124
      obtain ⟨N124q, rfl, K124, q125, q126, q127⟩ := hQ124
      have N128 := Fr.app N0 N124q
      refine own_tr st124 ?_
      have Zs129 : n0 ≤ T124.heap.size := Nat.le_trans Zs120 K124.1
      show own_Go p e below s _ _ _ (T124.setTop (mkF m 77 #[.val (.long p1), .second, .val (.long p2), .second, .val (.long p3), .second, .val (.long p4), .second, .val (.int p5), .val (.int (p5 &&& (3 : Int32))), .val (.int ((XT.ushr p5 (2 : Int32)) &&& (3 : Int32))), .val (.long p1), .second, .val (.long p4), .second, .unset, .unset, .unset, .unset, .unset] [(.ref b119)]))
      refine own_st (fun _ k => XS.astore X124.here hx rfl (hb hby at_77) rfl rfl (l' := #[.val (.long p1), .second, .val (.long p2), .second, .val (.long p3), .second, .val (.long p4), .second, .val (.int p5), .val (.int (p5 &&& (3 : Int32))), .val (.int ((XT.ushr p5 (2 : Int32)) &&& (3 : Int32))), .val (.long p1), .second, .val (.long p4), .second, .val (.ref b119), .unset, .unset, .unset, .unset]) rfl k) ?_
      show own_Go p e below s _ _ _ (T124.setTop (mkF m 79 #[.val (.long p1), .second, .val (.long p2), .second, .val (.long p3), .second, .val (.long p4), .second, .val (.int p5), .val (.int (p5 &&& (3 : Int32))), .val (.int ((XT.ushr p5 (2 : Int32)) &&& (3 : Int32))), .val (.long p1), .second, .val (.long p4), .second, .val (.ref b119), .unset, .unset, .unset, .unset] []))
      obtain ⟨T130, h130, X130, e130, E130, A130, D130, -, st130⟩ := newO X124 hx hZ hown (hw _ (List.mem_of_getElem? (i := 0) rfl)) (hw _ (List.mem_of_getElem? (i := 1) rfl)) (hw _ (List.mem_of_getElem? (i := 2) rfl)) rfl (g := (mkF m 79 #[.val (.long p1), .second, .val (.long p2), .second, .val (.long p3), .second, .val (.long p4), .second, .val (.int p5), .val (.int (p5 &&& (3 : Int32))), .val (.int ((XT.ushr p5 (2 : Int32)) &&& (3 : Int32))), .val (.long p1), .second, .val (.long p4), .second, .val (.ref b119), .unset, .unset, .unset, .unset] [])) rfl (hb hby at_79) (by decide) (by decide)
      obtain ⟨b130, g130⟩ : ∃ z, z = T124.heap.size := ⟨_, rfl⟩
      rw [← g130] at A130 D130 st130
      refine own_st st130 ?_
      have Zs131 : n0 ≤ h130.size := Nat.le_trans Zs129 E130.1
      have g132 : n0 ≤ b130 := Nat.le_trans Zs129 (Nat.le_of_eq g130.symm)
      have F133 : Fld Z h130 b130 "com/example/epoch/epoch/protocol/record/TimestampedOffset" "timestamp" "J" (.long (0 : Int64)) := D130 (Or.inr (hw _ (List.mem_of_getElem? (i := 10) rfl))) (ty := .long) (by decide)
      have F134 : Fld Z h130 b130 "com/example/epoch/epoch/protocol/record/TimestampedOffset" "offset" "J" (.long (0 : Int64)) := D130 (Or.inr (hw _ (List.mem_of_getElem? (i := 12) rfl))) (ty := .long) (by decide)
      show own_Go p e below s _ _ _ (T130.setTop (mkF m 82 #[.val (.long p1), .second, .val (.long p2), .second, .val (.long p3), .second, .val (.long p4), .second, .val (.int p5), .val (.int (p5 &&& (3 : Int32))), .val (.int ((XT.ushr p5 (2 : Int32)) &&& (3 : Int32))), .val (.long p1), .second, .val (.long p4), .second, .val (.ref b119), .unset, .unset, .unset, .unset] [(.ref b130)]))
      refine own_st (fun _ k => XS.dup X130.here hx rfl (hb hby at_82) rfl rfl k) ?_
      show own_Go p e below s _ _ _ (T130.setTop (mkF m 83 #[.val (.long p1), .second, .val (.long p2), .second, .val (.long p3), .second, .val (.long p4), .second, .val (.int p5), .val (.int (p5 &&& (3 : Int32))), .val (.int ((XT.ushr p5 (2 : Int32)) &&& (3 : Int32))), .val (.long p1), .second, .val (.long p4), .second, .val (.ref b119), .unset, .unset, .unset, .unset] [(.ref b130), (.ref b130)]))
      refine own_st (fun _ k => XT.lload X130.here hx rfl (hb hby at_83) rfl k) ?_
      show own_Go p e below s _ _ _ (T130.setTop (mkF m 85 #[.val (.long p1), .second, .val (.long p2), .second, .val (.long p3), .second, .val (.long p4), .second, .val (.int p5), .val (.int (p5 &&& (3 : Int32))), .val (.int ((XT.ushr p5 (2 : Int32)) &&& (3 : Int32))), .val (.long p1), .second, .val (.long p4), .second, .val (.ref b119), .unset, .unset, .unset, .unset] [(.long p1), (.ref b130), (.ref b130)]))
      refine own_st (fun _ k => XT.lload X130.here hx rfl (hb hby at_85) rfl k) ?_
      show own_Go p e below s _ _ _ (T130.setTop (mkF m 87 #[.val (.long p1), .second, .val (.long p2), .second, .val (.long p3), .second, .val (.long p4), .second, .val (.int p5), .val (.int (p5 &&& (3 : Int32))), .val (.int ((XT.ushr p5 (2 : Int32)) &&& (3 : Int32))), .val (.long p1), .second, .val (.long p4), .second, .val (.ref b119), .unset, .unset, .unset, .unset] [(.long p4), (.long p1), (.ref b130), (.ref b130)]))
      obtain ⟨_, _, ⟨T135, L135, k135, n135⟩, -, X135, ⟨Lc135, hQ135, l135, y135, z135⟩, st135⟩ := X130.specialBack hx (y := (⟨"com/example/epoch/epoch/protocol/record/TimestampedOffset", "<init>", "(JJ)V"⟩ : MethodName)) rfl hown (mvT hZ (hw _ (List.mem_of_getElem? (i := 3) rfl))) (mvT hZ (hw _ (List.mem_of_getElem? (i := 4) rfl))) (mvT hZ (hw _ (List.mem_of_getElem? (i := 5) rfl))) (by decide) (backOf (W := 1) (own_rm_init l Z a0 hw [] b130 p1 p4 h130 n0 Zs131 A130 F133 F134 g132) hZ (hw _ (List.mem_of_getElem? (i := 5) rfl)) (hw _ (List.mem_of_getElem? (i := 2) rfl)) (by decide) (by decide)) (g := (mkF m 87 #[.val (.long p1), .second, .val (.long p2), .second, .val (.long p3), .second, .val (.long p4), .second, .val (.int p5), .val (.int (p5 &&& (3 : Int32))), .val (.int ((XT.ushr p5 (2 : Int32)) &&& (3 : Int32))), .val (.long p1), .second, .val (.long p4), .second, .val (.ref b119), .unset, .unset, .unset, .unset] [(.long p4), (.long p1), (.ref b130), (.ref b130)])) rfl (by rw [hml]; rfl) (Steps.refl _) (a := b130) (argsL := [(.long p1), (.long p4)]) (rest := [(.ref b130)]) (lenOf own_pd2 rfl) rfl (by show 2 * 0 + _ ≤ _; exact Nat.le_of_eq rfl) (hb hby at_87) (fun _ _ => ⟨rfl, e130, (by decide : 2 + 0 ≤ _), (by decide : 4 + 0 ≤ _)⟩)
      dsimp only [Pt.U, Pt.locs, Pt.cells, Pt.slots] at X135 l135 y135 z135 st135 hQ135
      subst l135 y135 z135
      obtain ⟨N135q, rfl, K135, q136, q137, q138⟩ := hQ135
      have N139 := Fr.app N128 N135q
      refine own_tr st135 ?_
      have Zs140 : n0 ≤ T135.heap.size := Nat.le_trans Zs131 K135.1
      show own_Go p e below s _ _ _ (T135.setTop (mkF m 90 #[.val (.long p1), .second, .val (.long p2), .second, .val (.long p3), .second, .val (.long p4), .second, .val (.int p5), .val (.int (p5 &&& (3 : Int32))), .val (.int ((XT.ushr p5 (2 : Int32)) &&& (3 : Int32))), .val (.long p1), .second, .val (.long p4), .second, .val (.ref b119), .unset, .unset, .unset, .unset] [(.ref b130)]))
      refine own_st (fun _ k => XS.astore X135.here hx rfl (hb hby at_90) rfl rfl (l' := #[.val (.long p1), .second, .val (.long p2), .second, .val (.long p3), .second, .val (.long p4), .second, .val (.int p5), .val (.int (p5 &&& (3 : Int32))), .val (.int ((XT.ushr p5 (2 : Int32)) &&& (3 : Int32))), .val (.long p1), .second, .val (.long p4), .second, .val (.ref b119), .val (.ref b130), .unset, .unset, .unset]) rfl k) ?_
      show own_Go p e below s _ _ _ (T135.setTop (mkF m 92 #[.val (.long p1), .second, .val (.long p2), .second, .val (.long p3), .second, .val (.long p4), .second, .val (.int p5), .val (.int (p5 &&& (3 : Int32))), .val (.int ((XT.ushr p5 (2 : Int32)) &&& (3 : Int32))), .val (.long p1), .second, .val (.long p4), .second, .val (.ref b119), .val (.ref b130), .unset, .unset, .unset] []))
      refine own_st (fun _ k => XS.iload X135.here hx rfl (hb hby at_92) rfl k) ?_
      show own_Go p e below s _ _ _ (T135.setTop (mkF m 94 #[.val (.long p1), .second, .val (.long p2), .second, .val (.long p3), .second, .val (.long p4), .second, .val (.int p5), .val (.int (p5 &&& (3 : Int32))), .val (.int ((XT.ushr p5 (2 : Int32)) &&& (3 : Int32))), .val (.long p1), .second, .val (.long p4), .second, .val (.ref b119), .val (.ref b130), .unset, .unset, .unset] [(.int ((XT.ushr p5 (2 : Int32)) &&& (3 : Int32)))]))
      by_cases hc141 : ((XT.ushr p5 (2 : Int32)) &&& (3 : Int32)) = 0
      · refine own_st (fun _ k => XS.ifNo X135.here hx rfl (hb hby at_94) rfl (XT.i0_ne_f hc141) k) ?_
        show own_Go p e below s _ _ _ (T135.setTop (mkF m 97 #[.val (.long p1), .second, .val (.long p2), .second, .val (.long p3), .second, .val (.long p4), .second, .val (.int p5), .val (.int (p5 &&& (3 : Int32))), .val (.int ((XT.ushr p5 (2 : Int32)) &&& (3 : Int32))), .val (.long p1), .second, .val (.long p4), .second, .val (.ref b119), .val (.ref b130), .unset, .unset, .unset] []))
        refine own_st (fun _ k => XT.lload X135.here hx rfl (hb hby at_97) rfl k) ?_
        show own_Go p e below s _ _ _ (T135.setTop (mkF m 99 #[.val (.long p1), .second, .val (.long p2), .second, .val (.long p3), .second, .val (.long p4), .second, .val (.int p5), .val (.int (p5 &&& (3 : Int32))), .val (.int ((XT.ushr p5 (2 : Int32)) &&& (3 : Int32))), .val (.long p1), .second, .val (.long p4), .second, .val (.ref b119), .val (.ref b130), .unset, .unset, .unset] [(.long p1)]))
        refine own_st (fun _ k => XT.lloadN X135.here hx rfl (hb hby at_99) rfl k) ?_
        show own_Go p e below s _ _ _ (T135.setTop (mkF m 100 #[.val (.long p1), .second, .val (.long p2), .second, .val (.long p3), .second, .val (.long p4), .second, .val (.int p5), .val (.int (p5 &&& (3 : Int32))), .val (.int ((XT.ushr p5 (2 : Int32)) &&& (3 : Int32))), .val (.long p1), .second, .val (.long p4), .second, .val (.ref b119), .val (.ref b130), .unset, .unset, .unset] [(.long p1), (.long p1)]))
        refine own_st (fun _ k => XT.lcmp X135.here hx rfl (hb hby at_100) rfl k) ?_
        show own_Go p e below s _ _ _ (T135.setTop (mkF m 101 #[.val (.long p1), .second, .val (.long p2), .second, .val (.long p3), .second, .val (.long p4), .second, .val (.int p5), .val (.int (p5 &&& (3 : Int32))), .val (.int ((XT.ushr p5 (2 : Int32)) &&& (3 : Int32))), .val (.long p1), .second, .val (.long p4), .second, .val (.ref b119), .val (.ref b130), .unset, .unset, .unset] [(.int (XT.cmpL p1 p1))]))
        refine own_st (fun _ k => XS.ifNo X135.here hx rfl (hb hby at_101) rfl (XT.ll_ne_f rfl) k) ?_
        show own_Go p e below s _ _ _ (T135.setTop (mkF m 104 #[.val (.long p1), .second, .val (.long p2), .second, .val (.long p3), .second, .val (.long p4), .second, .val (.int p5), .val (.int (p5 &&& (3 : Int32))), .val (.int ((XT.ushr p5 (2 : Int32)) &&& (3 : Int32))), .val (.long p1), .second, .val (.long p4), .second, .val (.ref b119), .val (.ref b130), .unset, .unset, .unset] []))
        refine own_st (fun _ k => XT.lload X135.here hx rfl (hb hby at_104) rfl k) ?_
        show own_Go p e below s _ _ _ (T135.setTop (mkF m 106 #[.val (.long p1), .second, .val (.long p2), .second, .val (.long p3), .second, .val (.long p4), .second, .val (.int p5), .val (.int (p5 &&& (3 : Int32))), .val (.int ((XT.ushr p5 (2 : Int32)) &&& (3 : Int32))), .val (.long p1), .second, .val (.long p4), .second, .val (.ref b119), .val (.ref b130), .unset, .unset, .unset] [(.long p4)]))
        refine own_st (fun _ k => XT.lloadN X135.here hx rfl (hb hby at_106) rfl k) ?_
        show own_Go p e below s _ _ _ (T135.setTop (mkF m 107 #[.val (.long p1), .second, .val (.long p2), .second, .val (.long p3), .second, .val (.long p4), .second, .val (.int p5), .val (.int (p5 &&& (3 : Int32))), .val (.int ((XT.ushr p5 (2 : Int32)) &&& (3 : Int32))), .val (.long p1), .second, .val (.long p4), .second, .val (.ref b119), .val (.ref b130), .unset, .unset, .unset] [(.long p2), (.long p4)]))
        refine own_st (fun _ k => XT.lcmp X135.here hx rfl (hb hby at_107) rfl k) ?_
        show own_Go p e below s _ _ _ (T135.setTop (mkF m 108 #[.val (.long p1), .second, .val (.long p2), .second, .val (.long p3), .second, .val (.long p4), .second, .val (.int p5), .val (.int (p5 &&& (3 : Int32))), .val (.int ((XT.ushr p5 (2 : Int32)) &&& (3 : Int32))), .val (.long p1), .second, .val (.long p4), .second, .val (.ref b119), .val (.ref b130), .unset, .unset, .unset] [(.int (XT.cmpL p4 p2))]))
        by_cases hc142 : p4 = p2
        · refine own_st (fun _ k => XS.ifNo X135.here hx rfl (hb hby at_108) rfl (XT.ll_ne_f hc142) k) ?_
          show own_Go p e below s _ _ _ (T135.setTop (mkF m 111 #[.val (.long p1), .second, .val (.long p2), .second, .val (.long p3), .second, .val (.long p4), .second, .val (.int p5), .val (.int (p5 &&& (3 : Int32))), .val (.int ((XT.ushr p5 (2 : Int32)) &&& (3 : Int32))), .val (.long p1), .second, .val (.long p4), .second, .val (.ref b119), .val (.ref b130), .unset, .unset, .unset] []))
          refine own_st (fun _ k => XT.iconstV X135.here hx rfl (1 : Int32) (hb hby at_111) (by decide) k) ?_
          show own_Go p e below s _ _ _ (T135.setTop (mkF m 112 #[.val (.long p1), .second, .val (.long p2), .second, .val (.long p3), .second, .val (.long p4), .second, .val (.int p5), .val (.int (p5 &&& (3 : Int32))), .val (.int ((XT.ushr p5 (2 : Int32)) &&& (3 : Int32))), .val (.long p1), .second, .val (.long p4), .second, .val (.ref b119), .val (.ref b130), .unset, .unset, .unset] [(.int (1 : Int32))]))
          refine own_st (fun _ k => XS.goto X135.here hx rfl (pc0 := 112) (pc' := 116) rfl (hb hby at_112) (by decide) (by decide) k) ?_
          show own_Go p e below s _ _ _ (T135.setTop (mkF m 116 #[.val (.long p1), .second, .val (.long p2), .second, .val (.long p3), .second, .val (.long p4), .second, .val (.int p5), .val (.int (p5 &&& (3 : Int32))), .val (.int ((XT.ushr p5 (2 : Int32)) &&& (3 : Int32))), .val (.long p1), .second, .val (.long p4), .second, .val (.ref b119), .val (.ref b130), .unset, .unset, .unset] [(.int (1 : Int32))]))
          refine own_st (fun _ k => XS.istore X135.here hx rfl (hb hby at_116) rfl (l' := #[.val (.long p1), .second, .val (.long p2), .second, .val (.long p3), .second, .val (.long p4), .second, .val (.int p5), .val (.int (p5 &&& (3 : Int32))), .val (.int ((XT.ushr p5 (2 : Int32)) &&& (3 : Int32))), .val (.long p1), .second, .val (.long p4), .second, .val (.ref b119), .val (.ref b130), .val (.int (1 : Int32)), .unset, .unset]) rfl k) ?_
          show own_Go p e below s _ _ _ (T135.setTop (mkF m 118 #[.val (.long p1), .second, .val (.long p2), .second, .val (.long p3), .second, .val (.long p4), .second, .val (.int p5), .val (.int (p5 &&& (3 : Int32))), .val (.int ((XT.ushr p5 (2 : Int32)) &&& (3 : Int32))), .val (.long p1), .second, .val (.long p4), .second, .val (.ref b119), .val (.ref b130), .val (.int (1 : Int32)), .unset, .unset] []))
          refine own_st (fun _ k => XS.aload X135.here hx rfl (hb hby at_118) rfl rfl k) ?_
          show own_Go p e below s _ _ _ (T135.setTop (mkF m 120 #[.val (.long p1), .second, .val (.long p2), .second, .val (.long p3), .second, .val (.long p4), .second, .val (.int p5), .val (.int (p5 &&& (3 : Int32))), .val (.int ((XT.ushr p5 (2 : Int32)) &&& (3 : Int32))), .val (.long p1), .second, .val (.long p4), .second, .val (.ref b119), .val (.ref b130), .val (.int (1 : Int32)), .unset, .unset] [(.ref b119)]))
          refine own_st (fun _ k => XS.aload X135.here hx rfl (hb hby at_120) rfl rfl k) ?_
          show own_Go p e below s _ _ _ (T135.setTop (mkF m 122 #[.val (.long p1), .second, .val (.long p2), .second, .val (.long p3), .second, .val (.long p4), .second, .val (.int p5), .val (.int (p5 &&& (3 : Int32))), .val (.int ((XT.ushr p5 (2 : Int32)) &&& (3 : Int32))), .val (.long p1), .second, .val (.long p4), .second, .val (.ref b119), .val (.ref b130), .val (.int (1 : Int32)), .unset, .unset] [(.ref b130), (.ref b119)]))
          have F144 : Exa Z T135.heap b119 "com/example/epoch/epoch/protocol/record/TimestampedOffset" := ((q125.ext E130).keep K135)
          have ne145 : b119 ≠ b130 := Nat.ne_of_lt (Nat.lt_of_lt_of_le (Nat.lt_of_lt_of_le A119.lt K124.1) (Nat.le_of_eq g130.symm))
          have F146 : Fld Z T135.heap b119 "com/example/epoch/epoch/protocol/record/TimestampedOffset" "timestamp" "J" (.long p1) := ((q126.ext E130).keep K135 (ninS ne145 nin0))
          have F147 : Fld Z T135.heap b119 "com/example/epoch/epoch/protocol/record/TimestampedOffset" "offset" "J" (.long p2) := ((q127.ext E130).keep K135 (ninS ne145 nin0))
          obtain ⟨cq143, kq143, q143a, q143b, q143c⟩ := isOf hZ rfl F144
          obtain ⟨_, _, ⟨T143, L143, k143, n143⟩, -, X143, ⟨Lc143, hQ143, l143, y143, z143⟩, st143⟩ := X135.virtualBack hx (y := (⟨"com/example/epoch/epoch/protocol/record/TimestampedOffset", "equals", "(Ljava/lang/Object;)Z"⟩ : MethodName)) (z := (⟨"com/example/epoch/epoch/protocol/record/TimestampedOffset", "equals", "(Ljava/lang/Object;)Z"⟩ : MethodName)) hown (mvT hZ (hw _ (List.mem_of_getElem? (i := 13) rfl))) (mvT hZ (hw _ (List.mem_of_getElem? (i := 14) rfl))) (notFace_of_selects (args := #[]) (mvT hZ (hw _ (List.mem_of_getElem? (i := 16) rfl)))) (mvT hZ (hw _ (List.mem_of_getElem? (i := 16) rfl))) (mvT hZ (hw _ (List.mem_of_getElem? (i := 15) rfl))) (by decide) (backOf (W := 0) (own_rm_eqA l Z a0 hw [] b119 b130 p1 p2 p1 p4 T135.heap n0 Zs140 q136 F146 F147 q137 q138) hZ (hw _ (List.mem_of_getElem? (i := 17) rfl)) (hw _ (List.mem_of_getElem? (i := 2) rfl)) (by decide) (by decide)) q143a q143c (g := (mkF m 122 #[.val (.long p1), .second, .val (.long p2), .second, .val (.long p3), .second, .val (.long p4), .second, .val (.int p5), .val (.int (p5 &&& (3 : Int32))), .val (.int ((XT.ushr p5 (2 : Int32)) &&& (3 : Int32))), .val (.long p1), .second, .val (.long p4), .second, .val (.ref b119), .val (.ref b130), .val (.int (1 : Int32)), .unset, .unset] [(.ref b130), (.ref b119)])) rfl (by rw [hml]; rfl) (Steps.refl _) (argsL := [(.ref b130)]) (rest := []) (lenOf own_pd3 rfl) rfl (by show 2 * 0 + _ ≤ _; exact Nat.le_of_eq rfl) (hb hby at_122) (fun _ _ => ⟨rfl, rfl, (by decide : 2 + 0 ≤ _), (by decide : 4 + 0 ≤ _)⟩)
          dsimp only [Pt.U, Pt.locs, Pt.cells, Pt.slots] at X143 l143 y143 z143 st143 hQ143
          subst l143 y143 z143
          obtain ⟨N143q, rfl, eh143⟩ := hQ143
          have N148 := Fr.app N139 N143q
          refine own_tr st143 ?_
          show own_Go p e below s _ _ _ (T143.setTop (mkF m 125 #[.val (.long p1), .second, .val (.long p2), .second, .val (.long p3), .second, .val (.long p4), .second, .val (.int p5), .val (.int (p5 &&& (3 : Int32))), .val (.int ((XT.ushr p5 (2 : Int32)) &&& (3 : Int32))), .val (.long p1), .second, .val (.long p4), .second, .val (.ref b119), .val (.ref b130), .val (.int (1 : Int32)), .unset, .unset] [(.int (if p1 = p1 then (if p2 = p4 then (1 : Int32) else 0) else 0))]))
          refine own_st (fun _ k => XS.istore X143.here hx rfl (hb hby at_125) rfl (l' := #[.val (.long p1), .second, .val (.long p2), .second, .val (.long p3), .second, .val (.long p4), .second, .val (.int p5), .val (.int (p5 &&& (3 : Int32))), .val (.int ((XT.ushr p5 (2 : Int32)) &&& (3 : Int32))), .val (.long p1), .second, .val (.long p4), .second, .val (.ref b119), .val (.ref b130), .val (.int (1 : Int32)), .val (.int (if p1 = p1 then (if p2 = p4 then (1 : Int32) else 0) else 0)), .unset]) rfl k) ?_
          show own_Go p e below s _ _ _ (T143.setTop (mkF m 127 #[.val (.long p1), .second, .val (.long p2), .second, .val (.long p3), .second, .val (.long p4), .second, .val (.int p5), .val (.int (p5 &&& (3 : Int32))), .val (.int ((XT.ushr p5 (2 : Int32)) &&& (3 : Int32))), .val (.long p1), .second, .val (.long p4), .second, .val (.ref b119), .val (.ref b130), .val (.int (1 : Int32)), .val (.int (if p1 = p1 then (if p2 = p4 then (1 : Int32) else 0) else 0)), .unset] []))
          refine own_st (fun _ k => XS.aload X143.here hx rfl (hb hby at_127) rfl rfl k) ?_
          show own_Go p e below s _ _ _ (T143.setTop (mkF m 129 #[.val (.long p1), .second, .val (.long p2), .second, .val (.long p3), .second, .val (.long p4), .second, .val (.int p5), .val (.int (p5 &&& (3 : Int32))), .val (.int ((XT.ushr p5 (2 : Int32)) &&& (3 : Int32))), .val (.long p1), .second, .val (.long p4), .second, .val (.ref b119), .val (.ref b130), .val (.int (1 : Int32)), .val (.int (if p1 = p1 then (if p2 = p4 then (1 : Int32) else 0) else 0)), .unset] [(.ref b130)]))
          refine own_st (fun _ k => XS.aload X143.here hx rfl (hb hby at_129) rfl rfl k) ?_
          show own_Go p e below s _ _ _ (T143.setTop (mkF m 131 #[.val (.long p1), .second, .val (.long p2), .second, .val (.long p3), .second, .val (.long p4), .second, .val (.int p5), .val (.int (p5 &&& (3 : Int32))), .val (.int ((XT.ushr p5 (2 : Int32)) &&& (3 : Int32))), .val (.long p1), .second, .val (.long p4), .second, .val (.ref b119), .val (.ref b130), .val (.int (1 : Int32)), .val (.int (if p1 = p1 then (if p2 = p4 then (1 : Int32) else 0) else 0)), .unset] [(.ref b119), (.ref b130)]))
          obtain ⟨cq149, kq149, q149a, q149b, q149c⟩ := isOf hZ eh143 q136
          obtain ⟨_, _, ⟨T149, L149, k149, n149⟩, -, X149, ⟨Lc149, hQ149, l149, y149, z149⟩, st149⟩ := X143.virtualBack hx (y := (⟨"com/example/epoch/epoch/protocol/record/TimestampedOffset", "equals", "(Ljava/lang/Object;)Z"⟩ : MethodName)) (z := (⟨"com/example/epoch/epoch/protocol/record/TimestampedOffset", "equals", "(Ljava/lang/Object;)Z"⟩ : MethodName)) hown (mvT hZ (hw _ (List.mem_of_getElem? (i := 13) rfl))) (mvT hZ (hw _ (List.mem_of_getElem? (i := 14) rfl))) (notFace_of_selects (args := #[]) (mvT hZ (hw _ (List.mem_of_getElem? (i := 16) rfl)))) (mvT hZ (hw _ (List.mem_of_getElem? (i := 16) rfl))) (mvT hZ (hw _ (List.mem_of_getElem? (i := 15) rfl))) (by decide) (backOf (W := 0) (own_rm_eqA l Z a0 hw [] b130 b119 p1 p4 p1 p2 T135.heap n0 Zs140 F144 q137 q138 F146 F147) hZ (hw _ (List.mem_of_getElem? (i := 17) rfl)) (hw _ (List.mem_of_getElem? (i := 2) rfl)) (by decide) (by decide)) q149a q149c (g := (mkF m 131 #[.val (.long p1), .second, .val (.long p2), .second, .val (.long p3), .second, .val (.long p4), .second, .val (.int p5), .val (.int (p5 &&& (3 : Int32))), .val (.int ((XT.ushr p5 (2 : Int32)) &&& (3 : Int32))), .val (.long p1), .second, .val (.long p4), .second, .val (.ref b119), .val (.ref b130), .val (.int (1 : Int32)), .val (.int (if p1 = p1 then (if p2 = p4 then (1 : Int32) else 0) else 0)), .unset] [(.ref b119), (.ref b130)])) rfl (by rw [hml]; rfl) (Steps.refl _) (argsL := [(.ref b119)]) (rest := []) (lenOf own_pd3 rfl) rfl (by show 2 * 0 + _ ≤ _; exact Nat.le_of_eq rfl) (hb hby at_131) (fun _ _ => ⟨rfl, eh143, (by decide : 2 + 0 ≤ _), (by decide : 4 + 0 ≤ _)⟩)
          dsimp only [Pt.U, Pt.locs, Pt.cells, Pt.slots] at X149 l149 y149 z149 st149 hQ149
          subst l149 y149 z149
          obtain ⟨N149q, rfl, eh149⟩ := hQ149
          have N150 := Fr.app N148 N149q
          refine own_tr st149 ?_
          show own_Go p e below s _ _ _ (T149.setTop (mkF m 134 #[.val (.long p1), .second, .val (.long p2), .second, .val (.long p3), .second, .val (.long p4), .second, .val (.int p5), .val (.int (p5 &&& (3 : Int32))), .val (.int ((XT.ushr p5 (2 : Int32)) &&& (3 : Int32))), .val (.long p1), .second, .val (.long p4), .second, .val (.ref b119), .val (.ref b130), .val (.int (1 : Int32)), .val (.int (if p1 = p1 then (if p2 = p4 then (1 : Int32) else 0) else 0)), .unset] [(.int (if p1 = p1 then (if p4 = p2 then (1 : Int32) else 0) else 0))]))
          refine own_st (fun _ k => XS.istore X149.here hx rfl (hb hby at_134) rfl (l' := #[.val (.long p1), .second, .val (.long p2), .second, .val (.long p3), .second, .val (.long p4), .second, .val (.int p5), .val (.int (p5 &&& (3 : Int32))), .val (.int ((XT.ushr p5 (2 : Int32)) &&& (3 : Int32))), .val (.long p1), .second, .val (.long p4), .second, .val (.ref b119), .val (.ref b130), .val (.int (1 : Int32)), .val (.int (if p1 = p1 then (if p2 = p4 then (1 : Int32) else 0) else 0)), .val (.int (if p1 = p1 then (if p4 = p2 then (1 : Int32) else 0) else 0))]) rfl k) ?_
          show own_Go p e below s _ _ _ (T149.setTop (mkF m 136 #[.val (.long p1), .second, .val (.long p2), .second, .val (.long p3), .second, .val (.long p4), .second, .val (.int p5), .val (.int (p5 &&& (3 : Int32))), .val (.int ((XT.ushr p5 (2 : Int32)) &&& (3 : Int32))), .val (.long p1), .second, .val (.long p4), .second, .val (.ref b119), .val (.ref b130), .val (.int (1 : Int32)), .val (.int (if p1 = p1 then (if p2 = p4 then (1 : Int32) else 0) else 0)), .val (.int (if p1 = p1 then (if p4 = p2 then (1 : Int32) else 0) else 0))] []))
          refine own_st (fun _ k => XS.iload X149.here hx rfl (hb hby at_136) rfl k) ?_
          show own_Go p e below s _ _ _ (T149.setTop (mkF m 138 #[.val (.long p1), .second, .val (.long p2), .second, .val (.long p3), .second, .val (.long p4), .second, .val (.int p5), .val (.int (p5 &&& (3 : Int32))), .val (.int ((XT.ushr p5 (2 : Int32)) &&& (3 : Int32))), .val (.long p1), .second, .val (.long p4), .second, .val (.ref b119), .val (.ref b130), .val (.int (1 : Int32)), .val (.int (if p1 = p1 then (if p2 = p4 then (1 : Int32) else 0) else 0)), .val (.int (if p1 = p1 then (if p4 = p2 then (1 : Int32) else 0) else 0))] [(.int (if p1 = p1 then (if p2 = p4 then (1 : Int32) else 0) else 0))]))
          refine own_st (fun _ k => XS.iload X149.here hx rfl (hb hby at_138) rfl k) ?_
          show own_Go p e below s _ _ _ (T149.setTop (mkF m 140 #[.val (.long p1), .second, .val (.long p2), .second, .val (.long p3), .second, .val (.long p4), .second, .val (.int p5), .val (.int (p5 &&& (3 : Int32))), .val (.int ((XT.ushr p5 (2 : Int32)) &&& (3 : Int32))), .val (.long p1), .second, .val (.long p4), .second, .val (.ref b119), .val (.ref b130), .val (.int (1 : Int32)), .val (.int (if p1 = p1 then (if p2 = p4 then (1 : Int32) else 0) else 0)), .val (.int (if p1 = p1 then (if p4 = p2 then (1 : Int32) else 0) else 0))] [(.int (1 : Int32)), (.int (if p1 = p1 then (if p2 = p4 then (1 : Int32) else 0) else 0))]))
          refine own_st (fun _ k => XS.icmpNo X149.here hx rfl (hb hby at_140) rfl (XT.ii_ne_f (by simp [hc142, (eq_comm : p2 = p4 ↔ p4 = p2)])) k) ?_
          show own_Go p e below s _ _ _ (T149.setTop (mkF m 143 #[.val (.long p1), .second, .val (.long p2), .second, .val (.long p3), .second, .val (.long p4), .second, .val (.int p5), .val (.int (p5 &&& (3 : Int32))), .val (.int ((XT.ushr p5 (2 : Int32)) &&& (3 : Int32))), .val (.long p1), .second, .val (.long p4), .second, .val (.ref b119), .val (.ref b130), .val (.int (1 : Int32)), .val (.int (if p1 = p1 then (if p2 = p4 then (1 : Int32) else 0) else 0)), .val (.int (if p1 = p1 then (if p4 = p2 then (1 : Int32) else 0) else 0))] []))
          refine own_st (fun _ k => XS.iload X149.here hx rfl (hb hby at_143) rfl k) ?_
          show own_Go p e below s _ _ _ (T149.setTop (mkF m 145 #[.val (.long p1), .second, .val (.long p2), .second, .val (.long p3), .second, .val (.long p4), .second, .val (.int p5), .val (.int (p5 &&& (3 : Int32))), .val (.int ((XT.ushr p5 (2 : Int32)) &&& (3 : Int32))), .val (.long p1), .second, .val (.long p4), .second, .val (.ref b119), .val (.ref b130), .val (.int (1 : Int32)), .val (.int (if p1 = p1 then (if p2 = p4 then (1 : Int32) else 0) else 0)), .val (.int (if p1 = p1 then (if p4 = p2 then (1 : Int32) else 0) else 0))] [(.int (if p1 = p1 then (if p4 = p2 then (1 : Int32) else 0) else 0))]))
          refine own_st (fun _ k => XS.iload X149.here hx rfl (hb hby at_145) rfl k) ?_
          show own_Go p e below s _ _ _ (T149.setTop (mkF m 147 #[.val (.long p1), .second, .val (.long p2), .second, .val (.long p3), .second, .val (.long p4), .second, .val (.int p5), .val (.int (p5 &&& (3 : Int32))), .val (.int ((XT.ushr p5 (2 : Int32)) &&& (3 : Int32))), .val (.long p1), .second, .val (.long p4), .second, .val (.ref b119), .val (.ref b130), .val (.int (1 : Int32)), .val (.int (if p1 = p1 then (if p2 = p4 then (1 : Int32) else 0) else 0)), .val (.int (if p1 = p1 then (if p4 = p2 then (1 : Int32) else 0) else 0))] [(.int (1 : Int32)), (.int (if p1 = p1 then (if p4 = p2 then (1 : Int32) else 0) else 0))]))
          refine own_st (fun _ k => XS.icmpNo X149.here hx rfl (hb hby at_147) rfl (XT.ii_ne_f (by simp [hc142, (eq_comm : p2 = p4 ↔ p4 = p2)])) k) ?_
          show own_Go p e below s _ _ _ (T149.setTop (mkF m 150 #[.val (.long p1), .second, .val (.long p2), .second, .val (.long p3), .second, .val (.long p4), .second, .val (.int p5), .val (.int (p5 &&& (3 : Int32))), .val (.int ((XT.ushr p5 (2 : Int32)) &&& (3 : Int32))), .val (.long p1), .second, .val (.long p4), .second, .val (.ref b119), .val (.ref b130), .val (.int (1 : Int32)), .val (.int (if p1 = p1 then (if p2 = p4 then (1 : Int32) else 0) else 0)), .val (.int (if p1 = p1 then (if p4 = p2 then (1 : Int32) else 0) else 0))] []))
          refine own_st (fun _ k => XT.iconstV X149.here hx rfl (1 : Int32) (hb hby at_150) (by decide) k) ?_
          show own_Go p e below s _ _ _ (T149.setTop (mkF m 151 #[.val (.long p1), .second, .val (.long p2), .second, .val (.long p3), .second, .val (.long p4), .second, .val (.int p5), .val (.int (p5 &&& (3 : Int32))), .val (.int ((XT.ushr p5 (2 : Int32)) &&& (3 : Int32))), .val (.long p1), .second, .val (.long p4), .second, .val (.ref b119), .val (.ref b130), .val (.int (1 : Int32)), .val (.int (if p1 = p1 then (if p2 = p4 then (1 : Int32) else 0) else 0)), .val (.int (if p1 = p1 then (if p4 = p2 then (1 : Int32) else 0) else 0))] [(.int (1 : Int32))]))
          refine own_st (fun _ k => XS.goto X149.here hx rfl (pc0 := 151) (pc' := 155) rfl (hb hby at_151) (by decide) (by decide) k) ?_
          show own_Go p e below s _ _ _ (T149.setTop (mkF m 155 #[.val (.long p1), .second, .val (.long p2), .second, .val (.long p3), .second, .val (.long p4), .second, .val (.int p5), .val (.int (p5 &&& (3 : Int32))), .val (.int ((XT.ushr p5 (2 : Int32)) &&& (3 : Int32))), .val (.long p1), .second, .val (.long p4), .second, .val (.ref b119), .val (.ref b130), .val (.int (1 : Int32)), .val (.int (if p1 = p1 then (if p2 = p4 then (1 : Int32) else 0) else 0)), .val (.int (if p1 = p1 then (if p4 = p2 then (1 : Int32) else 0) else 0))] [(.int (1 : Int32))]))
          refine own_retN X149 hx hlk Bd.returns (t := .boolean) (z' := (1 : Int32)) (by simp) (by decide) (hb hby at_155) (by decide) (by decide) ?_
          rw [eh149]
          exact ⟨N150, rfl⟩
        · refine own_st (fun _ k => XS.ifYes X135.here hx rfl (pc0 := 108) (pc' := 115) rfl (hb hby at_108) rfl (XT.ll_ne_t hc142) (by decide) (by decide) k) ?_
          show own_Go p e below s _ _ _ (T135.setTop (mkF m 115 #[.val (.long p1), .second, .val (.long p2), .second, .val (.long p3), .second, .val (.long p4), .second, .val (.int p5), .val (.int (p5 &&& (3 : Int32))), .val (.int ((XT.ushr p5 (2 : Int32)) &&& (3 : Int32))), .val (.long p1), .second, .val (.long p4), .second, .val (.ref b119), .val (.ref b130), .unset, .unset, .unset] []))
          refine own_st (fun _ k => XT.iconstV X135.here hx rfl (0 : Int32) (hb hby at_115) (by decide) k) ?_
          show own_Go p e below s _ _ _ (T135.setTop (mkF m 116 #[.val (.long p1), .second, .val (.long p2), .second, .val (.long p3), .second, .val (.long p4), .second, .val (.int p5), .val (.int (p5 &&& (3 : Int32))), .val (.int ((XT.ushr p5 (2 : Int32)) &&& (3 : Int32))), .val (.long p1), .second, .val (.long p4), .second, .val (.ref b119), .val (.ref b130), .unset, .unset, .unset] [(.int (0 : Int32))]))
          refine own_st (fun _ k => XS.istore X135.here hx rfl (hb hby at_116) rfl (l' := #[.val (.long p1), .second, .val (.long p2), .second, .val (.long p3), .second, .val (.long p4), .second, .val (.int p5), .val (.int (p5 &&& (3 : Int32))), .val (.int ((XT.ushr p5 (2 : Int32)) &&& (3 : Int32))), .val (.long p1), .second, .val (.long p4), .second, .val (.ref b119), .val (.ref b130), .val (.int (0 : Int32)), .unset, .unset]) rfl k) ?_
          show own_Go p e below s _ _ _ (T135.setTop (mkF m 118 #[.val (.long p1), .second, .val (.long p2), .second, .val (.long p3), .second, .val (.long p4), .second, .val (.int p5), .val (.int (p5 &&& (3 : Int32))), .val (.int ((XT.ushr p5 (2 : Int32)) &&& (3 : Int32))), .val (.long p1), .second, .val (.long p4), .second, .val (.ref b119), .val (.ref b130), .val (.int (0 : Int32)), .unset, .unset] []))
          refine own_st (fun _ k => XS.aload X135.here hx rfl (hb hby at_118) rfl rfl k) ?_
          show own_Go p e below s _ _ _ (T135.setTop (mkF m 120 #[.val (.long p1), .second, .val (.long p2), .second, .val (.long p3), .second, .val (.long p4), .second, .val (.int p5), .val (.int (p5 &&& (3 : Int32))), .val (.int ((XT.ushr p5 (2 : Int32)) &&& (3 : Int32))), .val (.long p1), .second, .val (.long p4), .second, .val (.ref b119), .val (.ref b130), .val (.int (0 : Int32)), .unset, .unset] [(.ref b119)]))
          refine own_st (fun _ k => XS.aload X135.here hx rfl (hb hby at_120) rfl rfl k) ?_
          show own_Go p e below s _ _ _ (T135.setTop (mkF m 122 #[.val (.long p1), .second, .val (.long p2), .second, .val (.long p3), .second, .val (.long p4), .second, .val (.int p5), .val (.int (p5 &&& (3 : Int32))), .val (.int ((XT.ushr p5 (2 : Int32)) &&& (3 : Int32))), .val (.long p1), .second, .val (.long p4), .second, .val (.ref b119), .val (.ref b130), .val (.int (0 : Int32)), .unset, .unset] [(.ref b130), (.ref b119)]))
          have F152 : Exa Z T135.heap b119 "com/example/epoch/epoch/protocol/record/TimestampedOffset" := ((q125.ext E130).keep K135)
          have ne153 : b119 ≠ b130 := Nat.ne_of_lt (Nat.lt_of_lt_of_le (Nat.lt_of_lt_of_le A119.lt K124.1) (Nat.le_of_eq g130.symm))
          have F154 : Fld Z T135.heap b119 "com/example/epoch/epoch/protocol/record/TimestampedOffset" "timestamp" "J" (.long p1) := ((q126.ext E130).keep K135 (ninS ne153 nin0))
          have F155 : Fld Z T135.heap b119 "com/example/epoch/epoch/protocol/record/TimestampedOffset" "offset" "J" (.long p2) := ((q127.ext E130).keep K135 (ninS ne153 nin0))
          obtain ⟨cq151, kq151, q151a, q151b, q151c⟩ := isOf hZ rfl F152
          obtain ⟨_, _, ⟨T151, L151, k151, n151⟩, -, X151, ⟨Lc151, hQ151, l151, y151, z151⟩, st151⟩ := X135.virtualBack hx (y := (⟨"com/example/epoch/epoch/protocol/record/TimestampedOffset", "equals", "(Ljava/lang/Object;)Z"⟩ : MethodName)) (z := (⟨"com/example/epoch/epoch/protocol/record/TimestampedOffset", "equals", "(Ljava/lang/Object;)Z"⟩ : MethodName)) hown (mvT hZ (hw _ (List.mem_of_getElem? (i := 13) rfl))) (mvT hZ (hw _ (List.mem_of_getElem? (i := 14) rfl))) (notFace_of_selects (args := #[]) (mvT hZ (hw _ (List.mem_of_getElem? (i := 16) rfl)))) (mvT hZ (hw _ (List.mem_of_getElem? (i := 16) rfl))) (mvT hZ (hw _ (List.mem_of_getElem? (i := 15) rfl))) (by decide) (backOf (W := 0) (own_rm_eqA l Z a0 hw [] b119 b130 p1 p2 p1 p4 T135.heap n0 Zs140 q136 F154 F155 q137 q138) hZ (hw _ (List.mem_of_getElem? (i := 17) rfl)) (hw _ (List.mem_of_getElem? (i := 2) rfl)) (by decide) (by decide)) q151a q151c (g := (mkF m 122 #[.val (.long p1), .second, .val (.long p2), .second, .val (.long p3), .second, .val (.long p4), .second, .val (.int p5), .val (.int (p5 &&& (3 : Int32))), .val (.int ((XT.ushr p5 (2 : Int32)) &&& (3 : Int32))), .val (.long p1), .second, .val (.long p4), .second, .val (.ref b119), .val (.ref b130), .val (.int (0 : Int32)), .unset, .unset] [(.ref b130), (.ref b119)])) rfl (by rw [hml]; rfl) (Steps.refl _) (argsL := [(.ref b130)]) (rest := []) (lenOf own_pd3 rfl) rfl (by show 2 * 0 + _ ≤ _; exact Nat.le_of_eq rfl) (hb hby at_122) (fun _ _ => ⟨rfl, rfl, (by decide : 2 + 0 ≤ _), (by decide : 4 + 0 ≤ _)⟩)
          dsimp only [Pt.U, Pt.locs, Pt.cells, Pt.slots] at X151 l151 y151 z151 st151 hQ151
          subst l151 y151 z151
          obtain ⟨N151q, rfl, eh151⟩ := hQ151
          have N156 := Fr.app N139 N151q
          refine own_tr st151 ?_
          show own_Go p e below s _ _ _ (T151.setTop (mkF m 125 #[.val (.long p1), .second, .val (.long p2), .second, .val (.long p3), .second, .val (.long p4), .second, .val (.int p5), .val (.int (p5 &&& (3 : Int32))), .val (.int ((XT.ushr p5 (2 : Int32)) &&& (3 : Int32))), .val (.long p1), .second, .val (.long p4), .second, .val (.ref b119), .val (.ref b130), .val (.int (0 : Int32)), .unset, .unset] [(.int (if p1 = p1 then (if p2 = p4 then (1 : Int32) else 0) else 0))]))
          refine own_st (fun _ k => XS.istore X151.here hx rfl (hb hby at_125) rfl (l' := #[.val (.long p1), .second, .val (.long p2), .second, .val (.long p3), .second, .val (.long p4), .second, .val (.int p5), .val (.int (p5 &&& (3 : Int32))), .val (.int ((XT.ushr p5 (2 : Int32)) &&& (3 : Int32))), .val (.long p1), .second, .val (.long p4), .second, .val (.ref b119), .val (.ref b130), .val (.int (0 : Int32)), .val (.int (if p1 = p1 then (if p2 = p4 then (1 : Int32) else 0) else 0)), .unset]) rfl k) ?_
          show own_Go p e below s _ _ _ (T151.setTop (mkF m 127 #[.val (.long p1), .second, .val (.long p2), .second, .val (.long p3), .second, .val (.long p4), .second, .val (.int p5), .val (.int (p5 &&& (3 : Int32))), .val (.int ((XT.ushr p5 (2 : Int32)) &&& (3 : Int32))), .val (.long p1), .second, .val (.long p4), .second, .val (.ref b119), .val (.ref b130), .val (.int (0 : Int32)), .val (.int (if p1 = p1 then (if p2 = p4 then (1 : Int32) else 0) else 0)), .unset] []))
          refine own_st (fun _ k => XS.aload X151.here hx rfl (hb hby at_127) rfl rfl k) ?_
          show own_Go p e below s _ _ _ (T151.setTop (mkF m 129 #[.val (.long p1), .second, .val (.long p2), .second, .val (.long p3), .second, .val (.long p4), .second, .val (.int p5), .val (.int (p5 &&& (3 : Int32))), .val (.int ((XT.ushr p5 (2 : Int32)) &&& (3 : Int32))), .val (.long p1), .second, .val (.long p4), .second, .val (.ref b119), .val (.ref b130), .val (.int (0 : Int32)), .val (.int (if p1 = p1 then (if p2 = p4 then (1 : Int32) else 0) else 0)), .unset] [(.ref b130)]))
          refine own_st (fun _ k => XS.aload X151.here hx rfl (hb hby at_129) rfl rfl k) ?_
          show own_Go p e below s _ _ _ (T151.setTop (mkF m 131 #[.val (.long p1), .second, .val (.long p2), .second, .val (.long p3), .second, .val (.long p4), .second, .val (.int p5), .val (.int (p5 &&& (3 : Int32))), .val (.int ((XT.ushr p5 (2 : Int32)) &&& (3 : Int32))), .val (.long p1), .second, .val (.long p4), .second, .val (.ref b119), .val (.ref b130), .val (.int (0 : Int32)), .val (.int (if p1 = p1 then (if p2 = p4 then (1 : Int32) else 0) else 0)), .unset] [(.ref b119), (.ref b130)]))
          obtain ⟨cq157, kq157, q157a, q157b, q157c⟩ := isOf hZ eh151 q136
          obtain ⟨_, _, ⟨T157, L157, k157, n157⟩, -, X157, ⟨Lc157, hQ157, l157, y157, z157⟩, st157⟩ := X151.virtualBack hx (y := (⟨"com/example/epoch/epoch/protocol/record/TimestampedOffset", "equals", "(Ljava/lang/Object;)Z"⟩ : MethodName)) (z := (⟨"com/example/epoch/epoch/protocol/record/TimestampedOffset", "equals", "(Ljava/lang/Object;)Z"⟩ : MethodName)) hown (mvT hZ (hw _ (List.mem_of_getElem? (i := 13) rfl))) (mvT hZ (hw _ (List.mem_of_getElem? (i := 14) rfl))) (notFace_of_selects (args := #[]) (mvT hZ (hw _ (List.mem_of_getElem? (i := 16) rfl)))) (mvT hZ (hw _ (List.mem_of_getElem? (i := 16) rfl))) (mvT hZ (hw _ (List.mem_of_getElem? (i := 15) rfl))) (by decide) (backOf (W := 0) (own_rm_eqA l Z a0 hw [] b130 b119 p1 p4 p1 p2 T135.heap n0 Zs140 F152 q137 q138 F154 F155) hZ (hw _ (List.mem_of_getElem? (i := 17) rfl)) (hw _ (List.mem_of_getElem? (i := 2) rfl)) (by decide) (by decide)) q157a q157c (g := (mkF m 131 #[.val (.long p1), .second, .val (.long p2), .second, .val (.long p3), .second, .val (.long p4), .second, .val (.int p5), .val (.int (p5 &&& (3 : Int32))), .val (.int ((XT.ushr p5 (2 : Int32)) &&& (3 : Int32))), .val (.long p1), .second, .val (.long p4), .second, .val (.ref b119), .val (.ref b130), .val (.int (0 : Int32)), .val (.int (if p1 = p1 then (if p2 = p4 then (1 : Int32) else 0) else 0)), .unset] [(.ref b119), (.ref b130)])) rfl (by rw [hml]; rfl) (Steps.refl _) (argsL := [(.ref b119)]) (rest := []) (lenOf own_pd3 rfl) rfl (by show 2 * 0 + _ ≤ _; exact Nat.le_of_eq rfl) (hb hby at_131) (fun _ _ => ⟨rfl, eh151, (by decide : 2 + 0 ≤ _), (by decide : 4 + 0 ≤ _)⟩)
          dsimp only [Pt.U, Pt.locs, Pt.cells, Pt.slots] at X157 l157 y157 z157 st157 hQ157
          subst l157 y157 z157
          obtain ⟨N157q, rfl, eh157⟩ := hQ157
          have N158 := Fr.app N156 N157q
          refine own_tr st157 ?_
          show own_Go p e below s _ _ _ (T157.setTop (mkF m 134 #[.val (.long p1), .second, .val (.long p2), .second, .val (.long p3), .second, .val (.long p4), .second, .val (.int p5), .val (.int (p5 &&& (3 : Int32))), .val (.int ((XT.ushr p5 (2 : Int32)) &&& (3 : Int32))), .val (.long p1), .second, .val (.long p4), .second, .val (.ref b119), .val (.ref b130), .val (.int (0 : Int32)), .val (.int (if p1 = p1 then (if p2 = p4 then (1 : Int32) else 0) else 0)), .unset] [(.int (if p1 = p1 then (if p4 = p2 then (1 : Int32) else 0) else 0))]))
          refine own_st (fun _ k => XS.istore X157.here hx rfl (hb hby at_134) rfl (l' := #[.val (.long p1), .second, .val (.long p2), .second, .val (.long p3), .second, .val (.long p4), .second, .val (.int p5), .val (.int (p5 &&& (3 : Int32))), .val (.int ((XT.ushr p5 (2 : Int32)) &&& (3 : Int32))), .val (.long p1), .second, .val (.long p4), .second, .val (.ref b119), .val (.ref b130), .val (.int (0 : Int32)), .val (.int (if p1 = p1 then (if p2 = p4 then (1 : Int32) else 0) else 0)), .val (.int (if p1 = p1 then (if p4 = p2 then (1 : Int32) else 0) else 0))]) rfl k) ?_
          show own_Go p e below s _ _ _ (T157.setTop (mkF m 136 #[.val (.long p1), .second, .val (.long p2), .second, .val (.long p3), .second, .val (.long p4), .second, .val (.int p5), .val (.int (p5 &&& (3 : Int32))), .val (.int ((XT.ushr p5 (2 : Int32)) &&& (3 : Int32))), .val (.long p1), .second, .val (.long p4), .second, .val (.ref b119), .val (.ref b130), .val (.int (0 : Int32)), .val (.int (if p1 = p1 then (if p2 = p4 then (1 : Int32) else 0) else 0)), .val (.int (if p1 = p1 then (if p4 = p2 then (1 : Int32) else 0) else 0))] []))
          refine own_st (fun _ k => XS.iload X157.here hx rfl (hb hby at_136) rfl k) ?_
          show own_Go p e below s _ _ _ (T157.setTop (mkF m 138 #[.val (.long p1), .second, .val (.long p2), .second, .val (.long p3), .second, .val (.long p4), .second, .val (.int p5), .val (.int (p5 &&& (3 : Int32))), .val (.int ((XT.ushr p5 (2 : Int32)) &&& (3 : Int32))), .val (.long p1), .second, .val (.long p4), .second, .val (.ref b119), .val (.ref b130), .val (.int (0 : Int32)), .val (.int (if p1 = p1 then (if p2 = p4 then (1 : Int32) else 0) else 0)), .val (.int (if p1 = p1 then (if p4 = p2 then (1 : Int32) else 0) else 0))] [(.int (if p1 = p1 then (if p2 = p4 then (1 : Int32) else 0) else 0))]))
          refine own_st (fun _ k => XS.iload X157.here hx rfl (hb hby at_138) rfl k) ?_
          show own_Go p e below s _ _ _ (T157.setTop (mkF m 140 #[.val (.long p1), .second, .val (.long p2), .second, .val (.long p3), .second, .val (.long p4), .second, .val (.int p5), .val (.int (p5 &&& (3 : Int32))), .val (.int ((XT.ushr p5 (2 : Int32)) &&& (3 : Int32))), .val (.long p1), .second, .val (.long p4), .second, .val (.ref b119), .val (.ref b130), .val (.int (0 : Int32)), .val (.int (if p1 = p1 then (if p2 = p4 then (1 : Int32) else 0) else 0)), .val (.int (if p1 = p1 then (if p4 = p2 then (1 : Int32) else 0) else 0))] [(.int (0 : Int32)), (.int (if p1 = p1 then (if p2 = p4 then (1 : Int32) else 0) else 0))]))
          refine own_st (fun _ k => XS.icmpNo X157.here hx rfl (hb hby at_140) rfl (XT.ii_ne_f (by simp [hc142, (eq_comm : p2 = p4 ↔ p4 = p2)])) k) ?_
          show own_Go p e below s _ _ _ (T157.setTop (mkF m 143 #[.val (.long p1), .second, .val (.long p2), .second, .val (.long p3), .second, .val (.long p4), .second, .val (.int p5), .val (.int (p5 &&& (3 : Int32))), .val (.int ((XT.ushr p5 (2 : Int32)) &&& (3 : Int32))), .val (.long p1), .second, .val (.long p4), .second, .val (.ref b119), .val (.ref b130), .val (.int (0 : Int32)), .val (.int (if p1 = p1 then (if p2 = p4 then (1 : Int32) else 0) else 0)), .val (.int (if p1 = p1 then (if p4 = p2 then (1 : Int32) else 0) else 0))] []))
          refine own_st (fun _ k => XS.iload X157.here hx rfl (hb hby at_143) rfl k) ?_
          show own_Go p e below s _ _ _ (T157.setTop (mkF m 145 #[.val (.long p1), .second, .val (.long p2), .second, .val (.long p3), .second, .val (.long p4), .second, .val (.int p5), .val (.int (p5 &&& (3 : Int32))), .val (.int ((XT.ushr p5 (2 : Int32)) &&& (3 : Int32))), .val (.long p1), .second, .val (.long p4), .second, .val (.ref b119), .val (.ref b130), .val (.int (0 : Int32)), .val (.int (if p1 = p1 then (if p2 = p4 then (1 : Int32) else 0) else 0)), .val (.int (if p1 = p1 then (if p4 = p2 then (1 : Int32) else 0) else 0))] [(.int (if p1 = p1 then (if p4 = p2 then (1 : Int32) else 0) else 0))]))
          refine own_st (fun _ k => XS.iload X157.here hx rfl (hb hby at_145) rfl k) ?_
          show own_Go p e below s _ _ _ (T157.setTop (mkF m 147 #[.val (.long p1), .second, .val (.long p2), .second, .val (.long p3), .second, .val (.long p4), .second, .val (.int p5), .val (.int (p5 &&& (3 : Int32))), .val (.int ((XT.ushr p5 (2 : Int32)) &&& (3 : Int32))), .val (.long p1), .second, .val (.long p4), .second, .val (.ref b119), .val (.ref b130), .val (.int (0 : Int32)), .val (.int (if p1 = p1 then (if p2 = p4 then (1 : Int32) else 0) else 0)), .val (.int (if p1 = p1 then (if p4 = p2 then (1 : Int32) else 0) else 0))] [(.int (0 : Int32)), (.int (if p1 = p1 then (if p4 = p2 then (1 : Int32) else 0) else 0))]))
          refine own_st (fun _ k => XS.icmpNo X157.here hx rfl (hb hby at_147) rfl (XT.ii_ne_f (by simp [hc142, (eq_comm : p2 = p4 ↔ p4 = p2)])) k) ?_
          show own_Go p e below s _ _ _ (T157.setTop (mkF m 150 #[.val (.long p1), .second, .val (.long p2), .second, .val (.long p3), .second, .val (.long p4), .second, .val (.int p5), .val (.int (p5 &&& (3 : Int32))), .val (.int ((XT.ushr p5 (2 : Int32)) &&& (3 : Int32))), .val (.long p1), .second, .val (.long p4), .second, .val (.ref b119), .val (.ref b130), .val (.int (0 : Int32)), .val (.int (if p1 = p1 then (if p2 = p4 then (1 : Int32) else 0) else 0)), .val (.int (if p1 = p1 then (if p4 = p2 then (1 : Int32) else 0) else 0))] []))
          refine own_st (fun _ k => XT.iconstV X157.here hx rfl (1 : Int32) (hb hby at_150) (by decide) k) ?_
          show own_Go p e below s _ _ _ (T157.setTop (mkF m 151 #[.val (.long p1), .second, .val (.long p2), .second, .val (.long p3), .second, .val (.long p4), .second, .val (.int p5), .val (.int (p5 &&& (3 : Int32))), .val (.int ((XT.ushr p5 (2 : Int32)) &&& (3 : Int32))), .val (.long p1), .second, .val (.long p4), .second, .val (.ref b119), .val (.ref b130), .val (.int (0 : Int32)), .val (.int (if p1 = p1 then (if p2 = p4 then (1 : Int32) else 0) else 0)), .val (.int (if p1 = p1 then (if p4 = p2 then (1 : Int32) else 0) else 0))] [(.int (1 : Int32))]))
          refine own_st (fun _ k => XS.goto X157.here hx rfl (pc0 := 151) (pc' := 155) rfl (hb hby at_151) (by decide) (by decide) k) ?_
          show own_Go p e below s _ _ _ (T157.setTop (mkF m 155 #[.val (.long p1), .second, .val (.long p2), .second, .val (.long p3), .second, .val (.long p4), .second, .val (.int p5), .val (.int (p5 &&& (3 : Int32))), .val (.int ((XT.ushr p5 (2 : Int32)) &&& (3 : Int32))), .val (.long p1), .second, .val (.long p4), .second, .val (.ref b119), .val (.ref b130), .val (.int (0 : Int32)), .val (.int (if p1 = p1 then (if p2 = p4 then (1 : Int32) else 0) else 0)), .val (.int (if p1 = p1 then (if p4 = p2 then (1 : Int32) else 0) else 0))] [(.int (1 : Int32))]))
          refine own_retN X157 hx hlk Bd.returns (t := .boolean) (z' := (1 : Int32)) (by simp) (by decide) (hb hby at_155) (by decide) (by decide) ?_
          rw [eh157]
          exact ⟨N158, rfl⟩
      · refine own_st (fun _ k => XS.ifYes X135.here hx rfl (pc0 := 94) (pc' := 156) rfl (hb hby at_94) rfl (XT.i0_ne_t hc141) (by decide) (by decide) k) ?_
        show own_Go p e below s _ _ _ (T135.setTop (mkF m 156 #[.val (.long p1), .second, .val (.long p2), .second, .val (.long p3), .second, .val (.long p4), .second, .val (.int p5), .val (.int (p5 &&& (3 : Int32))), .val (.int ((XT.ushr p5 (2 : Int32)) &&& (3 : Int32))), .val (.long p1), .second, .val (.long p4), .second, .val (.ref b119), .val (.ref b130), .unset, .unset, .unset] []))
        refine own_st (fun _ k => XS.iload X135.here hx rfl (hb hby at_156) rfl k) ?_
        show own_Go p e below s _ _ _ (T135.setTop (mkF m 158 #[.val (.long p1), .second, .val (.long p2), .second, .val (.long p3), .second, .val (.long p4), .second, .val (.int p5), .val (.int (p5 &&& (3 : Int32))), .val (.int ((XT.ushr p5 (2 : Int32)) &&& (3 : Int32))), .val (.long p1), .second, .val (.long p4), .second, .val (.ref b119), .val (.ref b130), .unset, .unset, .unset] [(.int ((XT.ushr p5 (2 : Int32)) &&& (3 : Int32)))]))
        refine own_st (fun _ k => XT.iconstV X135.here hx rfl (1 : Int32) (hb hby at_158) (by decide) k) ?_
        show own_Go p e below s _ _ _ (T135.setTop (mkF m 159 #[.val (.long p1), .second, .val (.long p2), .second, .val (.long p3), .second, .val (.long p4), .second, .val (.int p5), .val (.int (p5 &&& (3 : Int32))), .val (.int ((XT.ushr p5 (2 : Int32)) &&& (3 : Int32))), .val (.long p1), .second, .val (.long p4), .second, .val (.ref b119), .val (.ref b130), .unset, .unset, .unset] [(.int (1 : Int32)), (.int ((XT.ushr p5 (2 : Int32)) &&& (3 : Int32)))]))
        by_cases hc159 : ((XT.ushr p5 (2 : Int32)) &&& (3 : Int32)) = (1 : Int32)
        · refine own_st (fun _ k => XS.icmpNo X135.here hx rfl (hb hby at_159) rfl (XT.ii_ne_f hc159) k) ?_
          show own_Go p e below s _ _ _ (T135.setTop (mkF m 162 #[.val (.long p1), .second, .val (.long p2), .second, .val (.long p3), .second, .val (.long p4), .second, .val (.int p5), .val (.int (p5 &&& (3 : Int32))), .val (.int ((XT.ushr p5 (2 : Int32)) &&& (3 : Int32))), .val (.long p1), .second, .val (.long p4), .second, .val (.ref b119), .val (.ref b130), .unset, .unset, .unset] []))
          refine own_st (fun _ k => XS.aconstNull X135.here hx rfl (hb hby at_162) k) ?_
          show own_Go p e below s _ _ _ (T135.setTop (mkF m 163 #[.val (.long p1), .second, .val (.long p2), .second, .val (.long p3), .second, .val (.long p4), .second, .val (.int p5), .val (.int (p5 &&& (3 : Int32))), .val (.int ((XT.ushr p5 (2 : Int32)) &&& (3 : Int32))), .val (.long p1), .second, .val (.long p4), .second, .val (.ref b119), .val (.ref b130), .unset, .unset, .unset] [.null]))
          refine own_st (fun _ k => XS.astore X135.here hx rfl (hb hby at_163) rfl rfl (l' := #[.val (.long p1), .second, .val (.long p2), .second, .val (.long p3), .second, .val (.long p4), .second, .val (.int p5), .val (.int (p5 &&& (3 : Int32))), .val (.int ((XT.ushr p5 (2 : Int32)) &&& (3 : Int32))), .val (.long p1), .second, .val (.long p4), .second, .val (.ref b119), .val (.ref b130), .val .null, .unset, .unset]) rfl k) ?_
          show own_Go p e below s _ _ _ (T135.setTop (mkF m 165 #[.val (.long p1), .second, .val (.long p2), .second, .val (.long p3), .second, .val (.long p4), .second, .val (.int p5), .val (.int (p5 &&& (3 : Int32))), .val (.int ((XT.ushr p5 (2 : Int32)) &&& (3 : Int32))), .val (.long p1), .second, .val (.long p4), .second, .val (.ref b119), .val (.ref b130), .val .null, .unset, .unset] []))
          refine own_st (fun _ k => XS.aload X135.here hx rfl (hb hby at_165) rfl rfl k) ?_
          show own_Go p e below s _ _ _ (T135.setTop (mkF m 167 #[.val (.long p1), .second, .val (.long p2), .second, .val (.long p3), .second, .val (.long p4), .second, .val (.int p5), .val (.int (p5 &&& (3 : Int32))), .val (.int ((XT.ushr p5 (2 : Int32)) &&& (3 : Int32))), .val (.long p1), .second, .val (.long p4), .second, .val (.ref b119), .val (.ref b130), .val .null, .unset, .unset] [(.ref b119)]))
          refine own_st (fun _ k => XS.aload X135.here hx rfl (hb hby at_167) rfl rfl k) ?_
          show own_Go p e below s _ _ _ (T135.setTop (mkF m 169 #[.val (.long p1), .second, .val (.long p2), .second, .val (.long p3), .second, .val (.long p4), .second, .val (.int p5), .val (.int (p5 &&& (3 : Int32))), .val (.int ((XT.ushr p5 (2 : Int32)) &&& (3 : Int32))), .val (.long p1), .second, .val (.long p4), .second, .val (.ref b119), .val (.ref b130), .val .null, .unset, .unset] [.null, (.ref b119)]))
          have F161 : Exa Z T135.heap b119 "com/example/epoch/epoch/protocol/record/TimestampedOffset" := ((q125.ext E130).keep K135)
          obtain ⟨cq160, kq160, q160a, q160b, q160c⟩ := isOf hZ rfl F161
          obtain ⟨_, _, ⟨T160, L160, k160, n160⟩, -, X160, ⟨Lc160, hQ160, l160, y160, z160⟩, st160⟩ := X135.virtualBack hx (y := (⟨"com/example/epoch/epoch/protocol/record/TimestampedOffset", "equals", "(Ljava/lang/Object;)Z"⟩ : MethodName)) (z := (⟨"com/example/epoch/epoch/protocol/record/TimestampedOffset", "equals", "(Ljava/lang/Object;)Z"⟩ : MethodName)) hown (mvT hZ (hw _ (List.mem_of_getElem? (i := 13) rfl))) (mvT hZ (hw _ (List.mem_of_getElem? (i := 14) rfl))) (notFace_of_selects (args := #[]) (mvT hZ (hw _ (List.mem_of_getElem? (i := 16) rfl)))) (mvT hZ (hw _ (List.mem_of_getElem? (i := 16) rfl))) (mvT hZ (hw _ (List.mem_of_getElem? (i := 15) rfl))) (by decide) (backOf (W := 0) (own_rm_eqN l Z a0 hw [] b119 T135.heap n0 Zs140 ) hZ (hw _ (List.mem_of_getElem? (i := 17) rfl)) (hw _ (List.mem_of_getElem? (i := 2) rfl)) (by decide) (by decide)) q160a q160c (g := (mkF m 169 #[.val (.long p1), .second, .val (.long p2), .second, .val (.long p3), .second, .val (.long p4), .second, .val (.int p5), .val (.int (p5 &&& (3 : Int32))), .val (.int ((XT.ushr p5 (2 : Int32)) &&& (3 : Int32))), .val (.long p1), .second, .val (.long p4), .second, .val (.ref b119), .val (.ref b130), .val .null, .unset, .unset] [.null, (.ref b119)])) rfl (by rw [hml]; rfl) (Steps.refl _) (argsL := [.null]) (rest := []) (lenOf own_pd3 rfl) rfl (by show 2 * 0 + _ ≤ _; exact Nat.le_of_eq rfl) (hb hby at_169) (fun _ _ => ⟨rfl, rfl, (by decide : 2 + 0 ≤ _), (by decide : 4 + 0 ≤ _)⟩)
          dsimp only [Pt.U, Pt.locs, Pt.cells, Pt.slots] at X160 l160 y160 z160 st160 hQ160
          subst l160 y160 z160
          obtain ⟨N160q, rfl, eh160⟩ := hQ160
          have N162 := Fr.app N139 N160q
          refine own_tr st160 ?_
          show own_Go p e below s _ _ _ (T160.setTop (mkF m 172 #[.val (.long p1), .second, .val (.long p2), .second, .val (.long p3), .second, .val (.long p4), .second, .val (.int p5), .val (.int (p5 &&& (3 : Int32))), .val (.int ((XT.ushr p5 (2 : Int32)) &&& (3 : Int32))), .val (.long p1), .second, .val (.long p4), .second, .val (.ref b119), .val (.ref b130), .val .null, .unset, .unset] [(.int (0 : Int32))]))
          refine own_st (fun _ k => XS.ifNo X160.here hx rfl (hb hby at_172) rfl (XT.i0_ne_f (by decide)) k) ?_
          show own_Go p e below s _ _ _ (T160.setTop (mkF m 175 #[.val (.long p1), .second, .val (.long p2), .second, .val (.long p3), .second, .val (.long p4), .second, .val (.int p5), .val (.int (p5 &&& (3 : Int32))), .val (.int ((XT.ushr p5 (2 : Int32)) &&& (3 : Int32))), .val (.long p1), .second, .val (.long p4), .second, .val (.ref b119), .val (.ref b130), .val .null, .unset, .unset] []))
          refine own_st (fun _ k => XT.iconstV X160.here hx rfl (1 : Int32) (hb hby at_175) (by decide) k) ?_
          show own_Go p e below s _ _ _ (T160.setTop (mkF m 176 #[.val (.long p1), .second, .val (.long p2), .second, .val (.long p3), .second, .val (.long p4), .second, .val (.int p5), .val (.int (p5 &&& (3 : Int32))), .val (.int ((XT.ushr p5 (2 : Int32)) &&& (3 : Int32))), .val (.long p1), .second, .val (.long p4), .second, .val (.ref b119), .val (.ref b130), .val .null, .unset, .unset] [(.int (1 : Int32))]))
          refine own_st (fun _ k => XS.goto X160.here hx rfl (pc0 := 176) (pc' := 180) rfl (hb hby at_176) (by decide) (by decide) k) ?_
          show own_Go p e below s _ _ _ (T160.setTop (mkF m 180 #[.val (.long p1), .second, .val (.long p2), .second, .val (.long p3), .second, .val (.long p4), .second, .val (.int p5), .val (.int (p5 &&& (3 : Int32))), .val (.int ((XT.ushr p5 (2 : Int32)) &&& (3 : Int32))), .val (.long p1), .second, .val (.long p4), .second, .val (.ref b119), .val (.ref b130), .val .null, .unset, .unset] [(.int (1 : Int32))]))
          refine own_retN X160 hx hlk Bd.returns (t := .boolean) (z' := (1 : Int32)) (by simp) (by decide) (hb hby at_180) (by decide) (by decide) ?_
          rw [eh160]
          exact ⟨N162, rfl⟩
        · refine own_st (fun _ k => XS.icmpYes X135.here hx rfl (pc0 := 159) (pc' := 181) rfl (hb hby at_159) rfl (XT.ii_ne_t hc159) (by decide) (by decide) k) ?_
          show own_Go p e below s _ _ _ (T135.setTop (mkF m 181 #[.val (.long p1), .second, .val (.long p2), .second, .val (.long p3), .second, .val (.long p4), .second, .val (.int p5), .val (.int (p5 &&& (3 : Int32))), .val (.int ((XT.ushr p5 (2 : Int32)) &&& (3 : Int32))), .val (.long p1), .second, .val (.long p4), .second, .val (.ref b119), .val (.ref b130), .unset, .unset, .unset] []))
          refine own_st (fun _ k => XS.iload X135.here hx rfl (hb hby at_181) rfl k) ?_
          show own_Go p e below s _ _ _ (T135.setTop (mkF m 183 #[.val (.long p1), .second, .val (.long p2), .second, .val (.long p3), .second, .val (.long p4), .second, .val (.int p5), .val (.int (p5 &&& (3 : Int32))), .val (.int ((XT.ushr p5 (2 : Int32)) &&& (3 : Int32))), .val (.long p1), .second, .val (.long p4), .second, .val (.ref b119), .val (.ref b130), .unset, .unset, .unset] [(.int ((XT.ushr p5 (2 : Int32)) &&& (3 : Int32)))]))
          refine own_st (fun _ k => XT.iconstV X135.here hx rfl (2 : Int32) (hb hby at_183) (by decide) k) ?_
          show own_Go p e below s _ _ _ (T135.setTop (mkF m 184 #[.val (.long p1), .second, .val (.long p2), .second, .val (.long p3), .second, .val (.long p4), .second, .val (.int p5), .val (.int (p5 &&& (3 : Int32))), .val (.int ((XT.ushr p5 (2 : Int32)) &&& (3 : Int32))), .val (.long p1), .second, .val (.long p4), .second, .val (.ref b119), .val (.ref b130), .unset, .unset, .unset] [(.int (2 : Int32)), (.int ((XT.ushr p5 (2 : Int32)) &&& (3 : Int32)))]))
          by_cases hc163 : ((XT.ushr p5 (2 : Int32)) &&& (3 : Int32)) = (2 : Int32)
          · refine own_st (fun _ k => XS.icmpNo X135.here hx rfl (hb hby at_184) rfl (XT.ii_ne_f hc163) k) ?_
            show own_Go p e below s _ _ _ (T135.setTop (mkF m 187 #[.val (.long p1), .second, .val (.long p2), .second, .val (.long p3), .second, .val (.long p4), .second, .val (.int p5), .val (.int (p5 &&& (3 : Int32))), .val (.int ((XT.ushr p5 (2 : Int32)) &&& (3 : Int32))), .val (.long p1), .second, .val (.long p4), .second, .val (.ref b119), .val (.ref b130), .unset, .unset, .unset] []))
            refine own_st (fun _ k => XT.lloadN X135.here hx rfl (hb hby at_187) rfl k) ?_
            show own_Go p e below s _ _ _ (T135.setTop (mkF m 188 #[.val (.long p1), .second, .val (.long p2), .second, .val (.long p3), .second, .val (.long p4), .second, .val (.int p5), .val (.int (p5 &&& (3 : Int32))), .val (.int ((XT.ushr p5 (2 : Int32)) &&& (3 : Int32))), .val (.long p1), .second, .val (.long p4), .second, .val (.ref b119), .val (.ref b130), .unset, .unset, .unset] [(.long p1)]))
            have O165 : Old Z n0 T135.heap := ((((O0.ext E119).keep K124 (allS g121 all0)).ext E130).keep K135 (allS g132 all0))
            obtain ⟨_, _, ⟨T164, L164, k164, n164⟩, -, X164, ⟨Lc164, hQ164, l164, y164, z164⟩, st164⟩ := Jvm.LawKit.callS X135 hx (y := (⟨"java/lang/Long", "valueOf", "(J)Ljava/lang/Long;"⟩ : MethodName)) hown (mvT hZ (hw _ (List.mem_of_getElem? (i := 20) rfl))) (mvT hZ (hw _ (List.mem_of_getElem? (i := 21) rfl))) (mvT hZ (hw _ (List.mem_of_getElem? (i := 22) rfl))) (mvT hZ (hw _ (List.mem_of_getElem? (i := 23) rfl))) (by decide) (backOf (W := 0) (own_rm_valueOfJ l Z a0 hw [] p1 a_cacheJ T135.heap n0 Zs140 O165 S_cacheJ BxJ) hZ (hw _ (List.mem_of_getElem? (i := 23) rfl)) (hw _ (List.mem_of_getElem? (i := 22) rfl)) (by decide) (by decide)) (g := (mkF m 188 #[.val (.long p1), .second, .val (.long p2), .second, .val (.long p3), .second, .val (.long p4), .second, .val (.int p5), .val (.int (p5 &&& (3 : Int32))), .val (.int ((XT.ushr p5 (2 : Int32)) &&& (3 : Int32))), .val (.long p1), .second, .val (.long p4), .second, .val (.ref b119), .val (.ref b130), .unset, .unset, .unset] [(.long p1)])) rfl (by rw [hml]; rfl) (argsL := [(.long p1)]) (rest := []) (lenOf own_pd4 rfl) rfl (by show 2 * 0 + _ ≤ _; exact Nat.le_of_eq rfl) (hb hby at_188) (fun _ _ => ⟨rfl, rfl, (by decide : 2 + 1 ≤ _), (by decide : 4 + 1 ≤ _)⟩)
            dsimp only [Pt.U, Pt.locs, Pt.cells, Pt.slots] at X164 l164 y164 z164 st164 hQ164
            subst l164 y164 z164
            obtain ⟨x166, N164q, rfl, K164, q167, q168⟩ := hQ164
            have N169 := Fr.app N139 N164q
            refine own_st st164 ?_
            have Zs170 : n0 ≤ T164.heap.size := Nat.le_trans Zs140 K164.1
            show own_Go p e below s _ _ _ (T164.setTop (mkF m 191 #[.val (.long p1), .second, .val (.long p2), .second, .val (.long p3), .second, .val (.long p4), .second, .val (.int p5), .val (.int (p5 &&& (3 : Int32))), .val (.int ((XT.ushr p5 (2 : Int32)) &&& (3 : Int32))), .val (.long p1), .second, .val (.long p4), .second, .val (.ref b119), .val (.ref b130), .unset, .unset, .unset] [(.ref x166)]))
            refine own_st (fun _ k => XS.astore X164.here hx rfl (hb hby at_191) rfl rfl (l' := #[.val (.long p1), .second, .val (.long p2), .second, .val (.long p3), .second, .val (.long p4), .second, .val (.int p5), .val (.int (p5 &&& (3 : Int32))), .val (.int ((XT.ushr p5 (2 : Int32)) &&& (3 : Int32))), .val (.long p1), .second, .val (.long p4), .second, .val (.ref b119), .val (.ref b130), .val (.ref x166), .unset, .unset]) rfl k) ?_
            show own_Go p e below s _ _ _ (T164.setTop (mkF m 193 #[.val (.long p1), .second, .val (.long p2), .second, .val (.long p3), .second, .val (.long p4), .second, .val (.int p5), .val (.int (p5 &&& (3 : Int32))), .val (.int ((XT.ushr p5 (2 : Int32)) &&& (3 : Int32))), .val (.long p1), .second, .val (.long p4), .second, .val (.ref b119), .val (.ref b130), .val (.ref x166), .unset, .unset] []))
            refine own_st (fun _ k => XS.aload X164.here hx rfl (hb hby at_193) rfl rfl k) ?_
            show own_Go p e below s _ _ _ (T164.setTop (mkF m 195 #[.val (.long p1), .second, .val (.long p2), .second, .val (.long p3), .second, .val (.long p4), .second, .val (.int p5), .val (.int (p5 &&& (3 : Int32))), .val (.int ((XT.ushr p5 (2 : Int32)) &&& (3 : Int32))), .val (.long p1), .second, .val (.long p4), .second, .val (.ref b119), .val (.ref b130), .val (.ref x166), .unset, .unset] [(.ref b119)]))
            refine own_st (fun _ k => XS.aload X164.here hx rfl (hb hby at_195) rfl rfl k) ?_
            show own_Go p e below s _ _ _ (T164.setTop (mkF m 197 #[.val (.long p1), .second, .val (.long p2), .second, .val (.long p3), .second, .val (.long p4), .second, .val (.int p5), .val (.int (p5 &&& (3 : Int32))), .val (.int ((XT.ushr p5 (2 : Int32)) &&& (3 : Int32))), .val (.long p1), .second, .val (.long p4), .second, .val (.ref b119), .val (.ref b130), .val (.ref x166), .unset, .unset] [(.ref x166), (.ref b119)]))
            have F172 : Exa Z T164.heap b119 "com/example/epoch/epoch/protocol/record/TimestampedOffset" := (((q125.ext E130).keep K135).keep K164)
            obtain ⟨cq171, kq171, q171a, q171b, q171c⟩ := isOf hZ rfl F172
            obtain ⟨_, _, ⟨T171, L171, k171, n171⟩, -, X171, ⟨Lc171, hQ171, l171, y171, z171⟩, st171⟩ := X164.virtualBack hx (y := (⟨"com/example/epoch/epoch/protocol/record/TimestampedOffset", "equals", "(Ljava/lang/Object;)Z"⟩ : MethodName)) (z := (⟨"com/example/epoch/epoch/protocol/record/TimestampedOffset", "equals", "(Ljava/lang/Object;)Z"⟩ : MethodName)) hown (mvT hZ (hw _ (List.mem_of_getElem? (i := 13) rfl))) (mvT hZ (hw _ (List.mem_of_getElem? (i := 14) rfl))) (notFace_of_selects (args := #[]) (mvT hZ (hw _ (List.mem_of_getElem? (i := 16) rfl)))) (mvT hZ (hw _ (List.mem_of_getElem? (i := 16) rfl))) (mvT hZ (hw _ (List.mem_of_getElem? (i := 15) rfl))) (by decide) (backOf (W := 0) (own_rm_eqL l Z a0 hw [] b119 x166 T164.heap n0 Zs170 q167) hZ (hw _ (List.mem_of_getElem? (i := 17) rfl)) (hw _ (List.mem_of_getElem? (i := 2) rfl)) (by decide) (by decide)) q171a q171c (g := (mkF m 197 #[.val (.long p1), .second, .val (.long p2), .second, .val (.long p3), .second, .val (.long p4), .second, .val (.int p5), .val (.int (p5 &&& (3 : Int32))), .val (.int ((XT.ushr p5 (2 : Int32)) &&& (3 : Int32))), .val (.long p1), .second, .val (.long p4), .second, .val (.ref b119), .val (.ref b130), .val (.ref x166), .unset, .unset] [(.ref x166), (.ref b119)])) rfl (by rw [hml]; rfl) (Steps.refl _) (argsL := [(.ref x166)]) (rest := []) (lenOf own_pd3 rfl) rfl (by show 2 * 0 + _ ≤ _; exact Nat.le_of_eq rfl) (hb hby at_197) (fun _ _ => ⟨rfl, rfl, (by decide : 3 + 0 ≤ _), (by decide : 5 + 0 ≤ _)⟩)
            dsimp only [Pt.U, Pt.locs, Pt.cells, Pt.slots] at X171 l171 y171 z171 st171 hQ171
            subst l171 y171 z171
            obtain ⟨N171q, rfl, eh171⟩ := hQ171
            have N173 := Fr.app N169 N171q
            refine own_tr st171 ?_
            show own_Go p e below s _ _ _ (T171.setTop (mkF m 200 #[.val (.long p1), .second, .val (.long p2), .second, .val (.long p3), .second, .val (.long p4), .second, .val (.int p5), .val (.int (p5 &&& (3 : Int32))), .val (.int ((XT.ushr p5 (2 : Int32)) &&& (3 : Int32))), .val (.long p1), .second, .val (.long p4), .second, .val (.ref b119), .val (.ref b130), .val (.ref x166), .unset, .unset] [(.int (0 : Int32))]))
            refine own_st (fun _ k => XS.ifNo X171.here hx rfl (hb hby at_200) rfl (XT.i0_ne_f (by decide)) k) ?_
            show own_Go p e below s _ _ _ (T171.setTop (mkF m 203 #[.val (.long p1), .second, .val (.long p2), .second, .val (.long p3), .second, .val (.long p4), .second, .val (.int p5), .val (.int (p5 &&& (3 : Int32))), .val (.int ((XT.ushr p5 (2 : Int32)) &&& (3 : Int32))), .val (.long p1), .second, .val (.long p4), .second, .val (.ref b119), .val (.ref b130), .val (.ref x166), .unset, .unset] []))
            refine own_st (fun _ k => XT.iconstV X171.here hx rfl (1 : Int32) (hb hby at_203) (by decide) k) ?_
            show own_Go p e below s _ _ _ (T171.setTop (mkF m 204 #[.val (.long p1), .second, .val (.long p2), .second, .val (.long p3), .second, .val (.long p4), .second, .val (.int p5), .val (.int (p5 &&& (3 : Int32))), .val (.int ((XT.ushr p5 (2 : Int32)) &&& (3 : Int32))), .val (.long p1), .second, .val (.long p4), .second, .val (.ref b119), .val (.ref b130), .val (.ref x166), .unset, .unset] [(.int (1 : Int32))]))
            refine own_st (fun _ k => XS.goto X171.here hx rfl (pc0 := 204) (pc' := 208) rfl (hb hby at_204) (by decide) (by decide) k) ?_
            show own_Go p e below s _ _ _ (T171.setTop (mkF m 208 #[.val (.long p1), .second, .val (.long p2), .second, .val (.long p3), .second, .val (.long p4), .second, .val (.int p5), .val (.int (p5 &&& (3 : Int32))), .val (.int ((XT.ushr p5 (2 : Int32)) &&& (3 : Int32))), .val (.long p1), .second, .val (.long p4), .second, .val (.ref b119), .val (.ref b130), .val (.ref x166), .unset, .unset] [(.int (1 : Int32))]))
            refine own_retN X171 hx hlk Bd.returns (t := .boolean) (z' := (1 : Int32)) (by simp) (by decide) (hb hby at_208) (by decide) (by decide) ?_
            rw [eh171]
            exact ⟨N173, rfl⟩
          · refine own_st (fun _ k => XS.icmpYes X135.here hx rfl (pc0 := 184) (pc' := 209) rfl (hb hby at_184) rfl (XT.ii_ne_t hc163) (by decide) (by decide) k) ?_
            show own_Go p e below s _ _ _ (T135.setTop (mkF m 209 #[.val (.long p1), .second, .val (.long p2), .second, .val (.long p3), .second, .val (.long p4), .second, .val (.int p5), .val (.int (p5 &&& (3 : Int32))), .val (.int ((XT.ushr p5 (2 : Int32)) &&& (3 : Int32))), .val (.long p1), .second, .val (.long p4), .second, .val (.ref b119), .val (.ref b130), .unset, .unset, .unset] []))
            refine own_st (fun _ k => XS.aload X135.here hx rfl (hb hby at_209) rfl rfl k) ?_
            show own_Go p e below s _ _ _ (T135.setTop (mkF m 211 #[.val (.long p1), .second, .val (.long p2), .second, .val (.long p3), .second, .val (.long p4), .second, .val (.int p5), .val (.int (p5 &&& (3 : Int32))), .val (.int ((XT.ushr p5 (2 : Int32)) &&& (3 : Int32))), .val (.long p1), .second, .val (.long p4), .second, .val (.ref b119), .val (.ref b130), .unset, .unset, .unset] [(.ref b119)]))
            refine own_st (fun _ k => XS.astore X135.here hx rfl (hb hby at_211) rfl rfl (l' := #[.val (.long p1), .second, .val (.long p2), .second, .val (.long p3), .second, .val (.long p4), .second, .val (.int p5), .val (.int (p5 &&& (3 : Int32))), .val (.int ((XT.ushr p5 (2 : Int32)) &&& (3 : Int32))), .val (.long p1), .second, .val (.long p4), .second, .val (.ref b119), .val (.ref b130), .val (.ref b119), .unset, .unset]) rfl k) ?_
            show own_Go p e below s _ _ _ (T135.setTop (mkF m 213 #[.val (.long p1), .second, .val (.long p2), .second, .val (.long p3), .second, .val (.long p4), .second, .val (.int p5), .val (.int (p5 &&& (3 : Int32))), .val (.int ((XT.ushr p5 (2 : Int32)) &&& (3 : Int32))), .val (.long p1), .second, .val (.long p4), .second, .val (.ref b119), .val (.ref b130), .val (.ref b119), .unset, .unset] []))
            refine own_st (fun _ k => XS.aload X135.here hx rfl (hb hby at_213) rfl rfl k) ?_
            show own_Go p e below s _ _ _ (T135.setTop (mkF m 215 #[.val (.long p1), .second, .val (.long p2), .second, .val (.long p3), .second, .val (.long p4), .second, .val (.int p5), .val (.int (p5 &&& (3 : Int32))), .val (.int ((XT.ushr p5 (2 : Int32)) &&& (3 : Int32))), .val (.long p1), .second, .val (.long p4), .second, .val (.ref b119), .val (.ref b130), .val (.ref b119), .unset, .unset] [(.ref b119)]))
            refine own_st (fun _ k => XS.aload X135.here hx rfl (hb hby at_215) rfl rfl k) ?_
            show own_Go p e below s _ _ _ (T135.setTop (mkF m 217 #[.val (.long p1), .second, .val (.long p2), .second, .val (.long p3), .second, .val (.long p4), .second, .val (.int p5), .val (.int (p5 &&& (3 : Int32))), .val (.int ((XT.ushr p5 (2 : Int32)) &&& (3 : Int32))), .val (.long p1), .second, .val (.long p4), .second, .val (.ref b119), .val (.ref b130), .val (.ref b119), .unset, .unset] [(.ref b119), (.ref b119)]))
            have F175 : Exa Z T135.heap b119 "com/example/epoch/epoch/protocol/record/TimestampedOffset" := ((q125.ext E130).keep K135)
            have ne176 : b119 ≠ b130 := Nat.ne_of_lt (Nat.lt_of_lt_of_le (Nat.lt_of_lt_of_le A119.lt K124.1) (Nat.le_of_eq g130.symm))
            have F177 : Fld Z T135.heap b119 "com/example/epoch/epoch/protocol/record/TimestampedOffset" "timestamp" "J" (.long p1) := ((q126.ext E130).keep K135 (ninS ne176 nin0))
            have F178 : Fld Z T135.heap b119 "com/example/epoch/epoch/protocol/record/TimestampedOffset" "offset" "J" (.long p2) := ((q127.ext E130).keep K135 (ninS ne176 nin0))
            obtain ⟨cq174, kq174, q174a, q174b, q174c⟩ := isOf hZ rfl F175
            obtain ⟨_, _, ⟨T174, L174, k174, n174⟩, -, X174, ⟨Lc174, hQ174, l174, y174, z174⟩, st174⟩ := X135.virtualBack hx (y := (⟨"com/example/epoch/epoch/protocol/record/TimestampedOffset", "equals", "(Ljava/lang/Object;)Z"⟩ : MethodName)) (z := (⟨"com/example/epoch/epoch/protocol/record/TimestampedOffset", "equals", "(Ljava/lang/Object;)Z"⟩ : MethodName)) hown (mvT hZ (hw _ (List.mem_of_getElem? (i := 13) rfl))) (mvT hZ (hw _ (List.mem_of_getElem? (i := 14) rfl))) (notFace_of_selects (args := #[]) (mvT hZ (hw _ (List.mem_of_getElem? (i := 16) rfl)))) (mvT hZ (hw _ (List.mem_of_getElem? (i := 16) rfl))) (mvT hZ (hw _ (List.mem_of_getElem? (i := 15) rfl))) (by decide) (backOf (W := 0) (own_rm_eqA l Z a0 hw [] b119 b119 p1 p2 p1 p2 T135.heap n0 Zs140 F175 F177 F178 F177 F178) hZ (hw _ (List.mem_of_getElem? (i := 17) rfl)) (hw _ (List.mem_of_getElem? (i := 2) rfl)) (by decide) (by decide)) q174a q174c (g := (mkF m 217 #[.val (.long p1), .second, .val (.long p2), .second, .val (.long p3), .second, .val (.long p4), .second, .val (.int p5), .val (.int (p5 &&& (3 : Int32))), .val (.int ((XT.ushr p5 (2 : Int32)) &&& (3 : Int32))), .val (.long p1), .second, .val (.long p4), .second, .val (.ref b119), .val (.ref b130), .val (.ref b119), .unset, .unset] [(.ref b119), (.ref b119)])) rfl (by rw [hml]; rfl) (Steps.refl _) (argsL := [(.ref b119)]) (rest := []) (lenOf own_pd3 rfl) rfl (by show 2 * 0 + _ ≤ _; exact Nat.le_of_eq rfl) (hb hby at_217) (fun _ _ => ⟨rfl, rfl, (by decide : 2 + 0 ≤ _), (by decide : 4 + 0 ≤ _)⟩)
            dsimp only [Pt.U, Pt.locs, Pt.cells, Pt.slots] at X174 l174 y174 z174 st174 hQ174
            subst l174 y174 z174
            obtain ⟨N174q, rfl, eh174⟩ := hQ174
            have N179 := Fr.app N139 N174q
            refine own_tr st174 ?_
            show own_Go p e below s _ _ _ (T174.setTop (mkF m 220 #[.val (.long p1), .second, .val (.long p2), .second, .val (.long p3), .second, .val (.long p4), .second, .val (.int p5), .val (.int (p5 &&& (3 : Int32))), .val (.int ((XT.ushr p5 (2 : Int32)) &&& (3 : Int32))), .val (.long p1), .second, .val (.long p4), .second, .val (.ref b119), .val (.ref b130), .val (.ref b119), .unset, .unset] [(.int (if p1 = p1 then (if p2 = p2 then (1 : Int32) else 0) else 0))]))
            refine own_retN X174 hx hlk Bd.returns (t := .boolean) (z' := 1) (by simp) (by simp [nar]) (hb hby at_220) (by decide) (by decide) ?_
            rw [eh174]
            exact ⟨N179, rfl⟩
    · refine own_st (fun _ k => XS.icmpYes X0.here hx rfl (pc0 := 31) (pc' := 44) rfl (hb hby at_31) rfl (XT.ii_ne_t hc118) (by decide) (by decide) k) ?_
      show own_Go p e below s _ _ _ (s₁.setTop (mkF m 44 #[.val (.long p1), .second, .val (.long p2), .second, .val (.long p3), .second, .val (.long p4), .second, .val (.int p5), .val (.int (p5 &&& (3 : Int32))), .val (.int ((XT.ushr p5 (2 : Int32)) &&& (3 : Int32))), .unset, .unset, .unset, .unset, .unset, .unset, .unset, .unset, .unset] []))
      refine own_st (fun _ k => XS.iload X0.here hx rfl (hb hby at_44) rfl k) ?_
      show own_Go p e below s _ _ _ (s₁.setTop (mkF m 46 #[.val (.long p1), .second, .val (.long p2), .second, .val (.long p3), .second, .val (.long p4), .second, .val (.int p5), .val (.int (p5 &&& (3 : Int32))), .val (.int ((XT.ushr p5 (2 : Int32)) &&& (3 : Int32))), .unset, .unset, .unset, .unset, .unset, .unset, .unset, .unset, .unset] [(.int (p5 &&& (3 : Int32)))]))
      refine own_st (fun _ k => XT.iconstV X0.here hx rfl (2 : Int32) (hb hby at_46) (by decide) k) ?_
      show own_Go p e below s _ _ _ (s₁.setTop (mkF m 47 #[.val (.long p1), .second, .val (.long p2), .second, .val (.long p3), .second, .val (.long p4), .second, .val (.int p5), .val (.int (p5 &&& (3 : Int32))), .val (.int ((XT.ushr p5 (2 : Int32)) &&& (3 : Int32))), .unset, .unset, .unset, .unset, .unset, .unset, .unset, .unset, .unset] [(.int (2 : Int32)), (.int (p5 &&& (3 : Int32)))]))
      by_cases hc180 : (p5 &&& (3 : Int32)) = (2 : Int32)
      · refine own_st (fun _ k => XS.icmpNo X0.here hx rfl (hb hby at_47) rfl (XT.ii_ne_f hc180) k) ?_
        show own_Go p e below s _ _ _ (s₁.setTop (mkF m 50 #[.val (.long p1), .second, .val (.long p2), .second, .val (.long p3), .second, .val (.long p4), .second, .val (.int p5), .val (.int (p5 &&& (3 : Int32))), .val (.int ((XT.ushr p5 (2 : Int32)) &&& (3 : Int32))), .unset, .unset, .unset, .unset, .unset, .unset, .unset, .unset, .unset] []))
        refine own_st (fun _ k => XT.lload X0.here hx rfl (hb hby at_50) rfl k) ?_
        show own_Go p e below s _ _ _ (s₁.setTop (mkF m 52 #[.val (.long p1), .second, .val (.long p2), .second, .val (.long p3), .second, .val (.long p4), .second, .val (.int p5), .val (.int (p5 &&& (3 : Int32))), .val (.int ((XT.ushr p5 (2 : Int32)) &&& (3 : Int32))), .unset, .unset, .unset, .unset, .unset, .unset, .unset, .unset, .unset] [(.long p3)]))
        refine own_st (fun _ k => XT.lstore X0.here hx rfl (hb hby at_52) rfl (l' := #[.val (.long p1), .second, .val (.long p2), .second, .val (.long p3), .second, .val (.long p4), .second, .val (.int p5), .val (.int (p5 &&& (3 : Int32))), .val (.int ((XT.ushr p5 (2 : Int32)) &&& (3 : Int32))), .val (.long p3), .second, .unset, .unset, .unset, .unset, .unset, .unset, .unset]) rfl k) ?_
        show own_Go p e below s _ _ _ (s₁.setTop (mkF m 54 #[.val (.long p1), .second, .val (.long p2), .second, .val (.long p3), .second, .val (.long p4), .second, .val (.int p5), .val (.int (p5 &&& (3 : Int32))), .val (.int ((XT.ushr p5 (2 : Int32)) &&& (3 : Int32))), .val (.long p3), .second, .unset, .unset, .unset, .unset, .unset, .unset, .unset] []))
        refine own_st (fun _ k => XT.lloadN X0.here hx rfl (hb hby at_54) rfl k) ?_
        show own_Go p e below s _ _ _ (s₁.setTop (mkF m 55 #[.val (.long p1), .second, .val (.long p2), .second, .val (.long p3), .second, .val (.long p4), .second, .val (.int p5), .val (.int (p5 &&& (3 : Int32))), .val (.int ((XT.ushr p5 (2 : Int32)) &&& (3 : Int32))), .val (.long p3), .second, .unset, .unset, .unset, .unset, .unset, .unset, .unset] [(.long p2)]))
        refine own_st (fun _ k => XT.lstore X0.here hx rfl (hb hby at_55) rfl (l' := #[.val (.long p1), .second, .val (.long p2), .second, .val (.long p3), .second, .val (.long p4), .second, .val (.int p5), .val (.int (p5 &&& (3 : Int32))), .val (.int ((XT.ushr p5 (2 : Int32)) &&& (3 : Int32))), .val (.long p3), .second, .val (.long p2), .second, .unset, .unset, .unset, .unset, .unset]) rfl k) ?_
        show own_Go p e below s _ _ _ (s₁.setTop (mkF m 57 #[.val (.long p1), .second, .val (.long p2), .second, .val (.long p3), .second, .val (.long p4), .second, .val (.int p5), .val (.int (p5 &&& (3 : Int32))), .val (.int ((XT.ushr p5 (2 : Int32)) &&& (3 : Int32))), .val (.long p3), .second, .val (.long p2), .second, .unset, .unset, .unset, .unset, .unset] []))
        refine own_st (fun _ k => XS.goto X0.here hx rfl (pc0 := 57) (pc' := 68) rfl (hb hby at_57) (by decide) (by decide) k) ?_
        show own_Go p e below s _ _ _ (s₁.setTop (mkF m 68 #[.val (.long p1), .second, .val (.long p2), .second, .val (.long p3), .second, .val (.long p4), .second, .val (.int p5), .val (.int (p5 &&& (3 : Int32))), .val (.int ((XT.ushr p5 (2 : Int32)) &&& (3 : Int32))), .val (.long p3), .second, .val (.long p2), .second, .unset, .unset, .unset, .unset, .unset] []))
        obtain ⟨T181, h181, X181, e181, E181, A181, D181, -, st181⟩ := newO X0 hx hZ hown (hw _ (List.mem_of_getElem? (i := 0) rfl)) (hw _ (List.mem_of_getElem? (i := 1) rfl)) (hw _ (List.mem_of_getElem? (i := 2) rfl)) e0 (g := (mkF m 68 #[.val (.long p1), .second, .val (.long p2), .second, .val (.long p3), .second, .val (.long p4), .second, .val (.int p5), .val (.int (p5 &&& (3 : Int32))), .val (.int ((XT.ushr p5 (2 : Int32)) &&& (3 : Int32))), .val (.long p3), .second, .val (.long p2), .second, .unset, .unset, .unset, .unset, .unset] [])) rfl (hb hby at_68) (by decide) (by decide)
        obtain ⟨b181, g181⟩ : ∃ z, z = h0.size := ⟨_, rfl⟩
        rw [← g181] at A181 D181 st181
        refine own_st st181 ?_
        have Zs182 : n0 ≤ h181.size := Nat.le_trans Z0 E181.1
        have g183 : n0 ≤ b181 := Nat.le_trans Z0 (Nat.le_of_eq g181.symm)
        have F184 : Fld Z h181 b181 "com/example/epoch/epoch/protocol/record/TimestampedOffset" "timestamp" "J" (.long (0 : Int64)) := D181 (Or.inr (hw _ (List.mem_of_getElem? (i := 10) rfl))) (ty := .long) (by decide)
        have F185 : Fld Z h181 b181 "com/example/epoch/epoch/protocol/record/TimestampedOffset" "offset" "J" (.long (0 : Int64)) := D181 (Or.inr (hw _ (List.mem_of_getElem? (i := 12) rfl))) (ty := .long) (by decide)
        show own_Go p e below s _ _ _ (T181.setTop (mkF m 71 #[.val (.long p1), .second, .val (.long p2), .second, .val (.long p3), .second, .val (.long p4), .second, .val (.int p5), .val (.int (p5 &&& (3 : Int32))), .val (.int ((XT.ushr p5 (2 : Int32)) &&& (3 : Int32))), .val (.long p3), .second, .val (.long p2), .second, .unset, .unset, .unset, .unset, .unset] [(.ref b181)]))
        refine own_st (fun _ k => XS.dup X181.here hx rfl (hb hby at_71) rfl rfl k) ?_
        show own_Go p e below s _ _ _ (T181.setTop (mkF m 72 #[.val (.long p1), .second, .val (.long p2), .second, .val (.long p3), .second, .val (.long p4), .second, .val (.int p5), .val (.int (p5 &&& (3 : Int32))), .val (.int ((XT.ushr p5 (2 : Int32)) &&& (3 : Int32))), .val (.long p3), .second, .val (.long p2), .second, .unset, .unset, .unset, .unset, .unset] [(.ref b181), (.ref b181)]))
        refine own_st (fun _ k => XT.lloadN X181.here hx rfl (hb hby at_72) rfl k) ?_
        show own_Go p e below s _ _ _ (T181.setTop (mkF m 73 #[.val (.long p1), .second, .val (.long p2), .second, .val (.long p3), .second, .val (.long p4), .second, .val (.int p5), .val (.int (p5 &&& (3 : Int32))), .val (.int ((XT.ushr p5 (2 : Int32)) &&& (3 : Int32))), .val (.long p3), .second, .val (.long p2), .second, .unset, .unset, .unset, .unset, .unset] [(.long p1), (.ref b181), (.ref b181)]))
        refine own_st (fun _ k => XT.lloadN X181.here hx rfl (hb hby at_73) rfl k) ?_
        show own_Go p e below s _ _ _ (T181.setTop (mkF m 74 #[.val (.long p1), .second, .val (.long p2), .second, .val (.long p3), .second, .val (.long p4), .second, .val (.int p5), .val (.int (p5 &&& (3 : Int32))), .val (.int ((XT.ushr p5 (2 : Int32)) &&& (3 : Int32))), .val (.long p3), .second, .val (.long p2), .second, .unset, .unset, .unset, .unset, .unset] [(.long p2), (.long p1), (.ref b181), (.ref b181)]))
        obtain ⟨_, _, ⟨T186, L186, k186, n186⟩, -, X186, ⟨Lc186, hQ186, l186, y186, z186⟩, st186⟩ := X181.specialBack hx (y := (⟨"com/example/epoch/epoch/protocol/record/TimestampedOffset", "<init>", "(JJ)V"⟩ : MethodName)) rfl hown (mvT hZ (hw _ (List.mem_of_getElem? (i := 3) rfl))) (mvT hZ (hw _ (List.mem_of_getElem? (i := 4) rfl))) (mvT hZ (hw _ (List.mem_of_getElem? (i := 5) rfl))) (by decide) (backOf (W := 1) (own_rm_init l Z a0 hw [] b181 p1 p2 h181 n0 Zs182 A181 F184 F185 g183) hZ (hw _ (List.mem_of_getElem? (i := 5) rfl)) (hw _ (List.mem_of_getElem? (i := 2) rfl)) (by decide) (by decide)) (g := (mkF m 74 #[.val (.long p1), .second, .val (.long p2), .second, .val (.long p3), .second, .val (.long p4), .second, .val (.int p5), .val (.int (p5 &&& (3 : Int32))), .val (.int ((XT.ushr p5 (2 : Int32)) &&& (3 : Int32))), .val (.long p3), .second, .val (.long p2), .second, .unset, .unset, .unset, .unset, .unset] [(.long p2), (.long p1), (.ref b181), (.ref b181)])) rfl (by rw [hml]; rfl) (Steps.refl _) (a := b181) (argsL := [(.long p1), (.long p2)]) (rest := [(.ref b181)]) (lenOf own_pd2 rfl) rfl (by show 2 * 0 + _ ≤ _; exact Nat.le_of_eq rfl) (hb hby at_74) (fun _ _ => ⟨rfl, e181, (by decide : 1 + 0 ≤ _), (by decide : 2 + 0 ≤ _)⟩)
        dsimp only [Pt.U, Pt.locs, Pt.cells, Pt.slots] at X186 l186 y186 z186 st186 hQ186
        subst l186 y186 z186
        obtain ⟨N186q, rfl, K186, q187, q188, q189⟩ := hQ186
        have N190 := Fr.app N0 N186q
        refine own_tr st186 ?_
        have Zs191 : n0 ≤ T186.heap.size := Nat.le_trans Zs182 K186.1
        show own_Go p e below s _ _ _ (T186.setTop (mkF m 77 #[.val (.long p1), .second, .val (.long p2), .second, .val (.long p3), .second, .val (.long p4), .second, .val (.int p5), .val (.int (p5 &&& (3 : Int32))), .val (.int ((XT.ushr p5 (2 : Int32)) &&& (3 : Int32))), .val (.long p3), .second, .val (.long p2), .second, .unset, .unset, .unset, .unset, .unset] [(.ref b181)]))
        refine own_st (fun _ k => XS.astore X186.here hx rfl (hb hby at_77) rfl rfl (l' := #[.val (.long p1), .second, .val (.long p2), .second, .val (.long p3), .second, .val (.long p4), .second, .val (.int p5), .val (.int (p5 &&& (3 : Int32))), .val (.int ((XT.ushr p5 (2 : Int32)) &&& (3 : Int32))), .val (.long p3), .second, .val (.long p2), .second, .val (.ref b181), .unset, .unset, .unset, .unset]) rfl k) ?_
        show own_Go p e below s _ _ _ (T186.setTop (mkF m 79 #[.val (.long p1), .second, .val (.long p2), .second, .val (.long p3), .second, .val (.long p4), .second, .val (.int p5), .val (.int (p5 &&& (3 : Int32))), .val (.int ((XT.ushr p5 (2 : Int32)) &&& (3 : Int32))), .val (.long p3), .second, .val (.long p2), .second, .val (.ref b181), .unset, .unset, .unset, .unset] []))
        obtain ⟨T192, h192, X192, e192, E192, A192, D192, -, st192⟩ := newO X186 hx hZ hown (hw _ (List.mem_of_getElem? (i := 0) rfl)) (hw _ (List.mem_of_getElem? (i := 1) rfl)) (hw _ (List.mem_of_getElem? (i := 2) rfl)) rfl (g := (mkF m 79 #[.val (.long p1), .second, .val (.long p2), .second, .val (.long p3), .second, .val (.long p4), .second, .val (.int p5), .val (.int (p5 &&& (3 : Int32))), .val (.int ((XT.ushr p5 (2 : Int32)) &&& (3 : Int32))), .val (.long p3), .second, .val (.long p2), .second, .val (.ref b181), .unset, .unset, .unset, .unset] [])) rfl (hb hby at_79) (by decide) (by decide)
        obtain ⟨b192, g192⟩ : ∃ z, z = T186.heap.size := ⟨_, rfl⟩
        rw [← g192] at A192 D192 st192
        refine own_st st192 ?_
        have Zs193 : n0 ≤ h192.size := Nat.le_trans Zs191 E192.1
        have g194 : n0 ≤ b192 := Nat.le_trans Zs191 (Nat.le_of_eq g192.symm)
        have F195 : Fld Z h192 b192 "com/example/epoch/epoch/protocol/record/TimestampedOffset" "timestamp" "J" (.long (0 : Int64)) := D192 (Or.inr (hw _ (List.mem_of_getElem? (i := 10) rfl))) (ty := .long) (by decide)
        have F196 : Fld Z h192 b192 "com/example/epoch/epoch/protocol/record/TimestampedOffset" "offset" "J" (.long (0 : Int64)) := D192 (Or.inr (hw _ (List.mem_of_getElem? (i := 12) rfl))) (ty := .long) (by decide)
        show own_Go p e below s _ _ _ (T192.setTop (mkF m 82 #[.val (.long p1), .second, .val (.long p2), .second, .val (.long p3), .second, .val (.long p4), .second, .val (.int p5), .val (.int (p5 &&& (3 : Int32))), .val (.int ((XT.ushr p5 (2 : Int32)) &&& (3 : Int32))), .val (.long p3), .second, .val (.long p2), .second, .val (.ref b181), .unset, .unset, .unset, .unset] [(.ref b192)]))
        refine own_st (fun _ k => XS.dup X192.here hx rfl (hb hby at_82) rfl rfl k) ?_
        show own_Go p e below s _ _ _ (T192.setTop (mkF m 83 #[.val (.long p1), .second, .val (.long p2), .second, .val (.long p3), .second, .val (.long p4), .second, .val (.int p5), .val (.int (p5 &&& (3 : Int32))), .val (.int ((XT.ushr p5 (2 : Int32)) &&& (3 : Int32))), .val (.long p3), .second, .val (.long p2), .second, .val (.ref b181), .unset, .unset, .unset, .unset] [(.ref b192), (.ref b192)]))
        refine own_st (fun _ k => XT.lload X192.here hx rfl (hb hby at_83) rfl k) ?_
        show own_Go p e below s _ _ _ (T192.setTop (mkF m 85 #[.val (.long p1), .second, .val (.long p2), .second, .val (.long p3), .second, .val (.long p4), .second, .val (.int p5), .val (.int (p5 &&& (3 : Int32))), .val (.int ((XT.ushr p5 (2 : Int32)) &&& (3 : Int32))), .val (.long p3), .second, .val (.long p2), .second, .val (.ref b181), .unset, .unset, .unset, .unset] [(.long p3), (.ref b192), (.ref b192)]))
        refine own_st (fun _ k => XT.lload X192.here hx rfl (hb hby at_85) rfl k) ?_
        show own_Go p e below s _ _ _ (T192.setTop (mkF m 87 #[.val (.long p1), .second, .val (.long p2), .second, .val (.long p3), .second, .val (.long p4), .second, .val (.int p5), .val (.int (p5 &&& (3 : Int32))), .val (.int ((XT.ushr p5 (2 : Int32)) &&& (3 : Int32))), .val (.long p3), .second, .val (.long p2), .second, .val (.ref b181), .unset, .unset, .unset, .unset] [(.long p2), (.long p3), (.ref b192), (.ref b192)]))
        obtain ⟨_, _, ⟨T197, L197, k197, n197⟩, -, X197, ⟨Lc197, hQ197, l197, y197, z197⟩, st197⟩ := X192.specialBack hx (y := (⟨"com/example/epoch/epoch/protocol/record/TimestampedOffset", "<init>", "(JJ)V"⟩ : MethodName)) rfl hown (mvT hZ (hw _ (List.mem_of_getElem? (i := 3) rfl))) (mvT hZ (hw _ (List.mem_of_getElem? (i := 4) rfl))) (mvT hZ (hw _ (List.mem_of_getElem? (i := 5) rfl))) (by decide) (backOf (W := 1) (own_rm_init l Z a0 hw [] b192 p3 p2 h192 n0 Zs193 A192 F195 F196 g194) hZ (hw _ (List.mem_of_getElem? (i := 5) rfl)) (hw _ (List.mem_of_getElem? (i := 2) rfl)) (by decide) (by decide)) (g := (mkF m 87 #[.val (.long p1), .second, .val (.long p2), .second, .val (.long p3), .second, .val (.long p4), .second, .val (.int p5), .val (.int (p5 &&& (3 : Int32))), .val (.int ((XT.ushr p5 (2 : Int32)) &&& (3 : Int32))), .val (.long p3), .second, .val (.long p2), .second, .val (.ref b181), .unset, .unset, .unset, .unset] [(.long p2), (.long p3), (.ref b192), (.ref b192)])) rfl (by rw [hml]; rfl) (Steps.refl _) (a := b192) (argsL := [(.long p3), (.long p2)]) (rest := [(.ref b192)]) (lenOf own_pd2 rfl) rfl (by show 2 * 0 + _ ≤ _; exact Nat.le_of_eq rfl) (hb hby at_87) (fun _ _ => ⟨rfl, e192, (by decide : 2 + 0 ≤ _), (by decide : 4 + 0 ≤ _)⟩)
        dsimp only [Pt.U, Pt.locs, Pt.cells, Pt.slots] at X197 l197 y197 z197 st197 hQ197
        subst l197 y197 z197
        obtain ⟨N197q, rfl, K197, q198, q199, q200⟩ := hQ197
        have N201 := Fr.app N190 N197q
        refine own_tr st197 ?_
        have Zs202 : n0 ≤ T197.heap.size := Nat.le_trans Zs193 K197.1
        show own_Go p e below s _ _ _ (T197.setTop (mkF m 90 #[.val (.long p1), .second, .val (.long p2), .second, .val (.long p3), .second, .val (.long p4), .second, .val (.int p5), .val (.int (p5 &&& (3 : Int32))), .val (.int ((XT.ushr p5 (2 : Int32)) &&& (3 : Int32))), .val (.long p3), .second, .val (.long p2), .second, .val (.ref b181), .unset, .unset, .unset, .unset] [(.ref b192)]))
        refine own_st (fun _ k => XS.astore X197.here hx rfl (hb hby at_90) rfl rfl (l' := #[.val (.long p1), .second, .val (.long p2), .second, .val (.long p3), .second, .val (.long p4), .second, .val (.int p5), .val (.int (p5 &&& (3 : Int32))), .val (.int ((XT.ushr p5 (2 : Int32)) &&& (3 : Int32))), .val (.long p3), .second, .val (.long p2), .second, .val (.ref b181), .val (.ref b192), .unset, .unset, .unset]) rfl k) ?_
        show own_Go p e below s _ _ _ (T197.setTop (mkF m 92 #[.val (.long p1), .second, .val (.long p2), .second, .val (.long p3), .second, .val (.long p4), .second, .val (.int p5), .val (.int (p5 &&& (3 : Int32))), .val (.int ((XT.ushr p5 (2 : Int32)) &&& (3 : Int32))), .val (.long p3), .second, .val (.long p2), .second, .val (.ref b181), .val (.ref b192), .unset, .unset, .unset] []))
        refine own_st (fun _ k => XS.iload X197.here hx rfl (hb hby at_92) rfl k) ?_
        show own_Go p e below s _ _ _ (T197.setTop (mkF m 94 #[.val (.long p1), .second, .val (.long p2), .second, .val (.long p3), .second, .val (.long p4), .second, .val (.int p5), .val (.int (p5 &&& (3 : Int32))), .val (.int ((XT.ushr p5 (2 : Int32)) &&& (3 : Int32))), .val (.long p3), .second, .val (.long p2), .second, .val (.ref b181), .val (.ref b192), .unset, .unset, .unset] [(.int ((XT.ushr p5 (2 : Int32)) &&& (3 : Int32)))]))
        by_cases hc203 : ((XT.ushr p5 (2 : Int32)) &&& (3 : Int32)) = 0
        · refine own_st (fun _ k => XS.ifNo X197.here hx rfl (hb hby at_94) rfl (XT.i0_ne_f hc203) k) ?_
          show own_Go p e below s _ _ _ (T197.setTop (mkF m 97 #[.val (.long p1), .second, .val (.long p2), .second, .val (.long p3), .second, .val (.long p4), .second, .val (.int p5), .val (.int (p5 &&& (3 : Int32))), .val (.int ((XT.ushr p5 (2 : Int32)) &&& (3 : Int32))), .val (.long p3), .second, .val (.long p2), .second, .val (.ref b181), .val (.ref b192), .unset, .unset, .unset] []))
          refine own_st (fun _ k => XT.lload X197.here hx rfl (hb hby at_97) rfl k) ?_
          show own_Go p e below s _ _ _ (T197.setTop (mkF m 99 #[.val (.long p1), .second, .val (.long p2), .second, .val (.long p3), .second, .val (.long p4), .second, .val (.int p5), .val (.int (p5 &&& (3 : Int32))), .val (.int ((XT.ushr p5 (2 : Int32)) &&& (3 : Int32))), .val (.long p3), .second, .val (.long p2), .second, .val (.ref b181), .val (.ref b192), .unset, .unset, .unset] [(.long p3)]))
          refine own_st (fun _ k => XT.lloadN X197.here hx rfl (hb hby at_99) rfl k) ?_
          show own_Go p e below s _ _ _ (T197.setTop (mkF m 100 #[.val (.long p1), .second, .val (.long p2), .second, .val (.long p3), .second, .val (.long p4), .second, .val (.int p5), .val (.int (p5 &&& (3 : Int32))), .val (.int ((XT.ushr p5 (2 : Int32)) &&& (3 : Int32))), .val (.long p3), .second, .val (.long p2), .second, .val (.ref b181), .val (.ref b192), .unset, .unset, .unset] [(.long p1), (.long p3)]))
          refine own_st (fun _ k => XT.lcmp X197.here hx rfl (hb hby at_100) rfl k) ?_
          show own_Go p e below s _ _ _ (T197.setTop (mkF m 101 #[.val (.long p1), .second, .val (.long p2), .second, .val (.long p3), .second, .val (.long p4), .second, .val (.int p5), .val (.int (p5 &&& (3 : Int32))), .val (.int ((XT.ushr p5 (2 : Int32)) &&& (3 : Int32))), .val (.long p3), .second, .val (.long p2), .second, .val (.ref b181), .val (.ref b192), .unset, .unset, .unset] [(.int (XT.cmpL p3 p1))]))
          by_cases hc204 : p3 = p1
          · refine own_st (fun _ k => XS.ifNo X197.here hx rfl (hb hby at_101) rfl (XT.ll_ne_f hc204) k) ?_
            show own_Go p e below s _ _ _ (T197.setTop (mkF m 104 #[.val (.long p1), .second, .val (.long p2), .second, .val (.long p3), .second, .val (.long p4), .second, .val (.int p5), .val (.int (p5 &&& (3 : Int32))), .val (.int ((XT.ushr p5 (2 : Int32)) &&& (3 : Int32))), .val (.long p3), .second, .val (.long p2), .second, .val (.ref b181), .val (.ref b192), .unset, .unset, .unset] []))
            refine own_st (fun _ k => XT.lload X197.here hx rfl (hb hby at_104) rfl k) ?_
            show own_Go p e below s _ _ _ (T197.setTop (mkF m 106 #[.val (.long p1), .second, .val (.long p2), .second, .val (.long p3), .second, .val (.long p4), .second, .val (.int p5), .val (.int (p5 &&& (3 : Int32))), .val (.int ((XT.ushr p5 (2 : Int32)) &&& (3 : Int32))), .val (.long p3), .second, .val (.long p2), .second, .val (.ref b181), .val (.ref b192), .unset, .unset, .unset] [(.long p2)]))
            refine own_st (fun _ k => XT.lloadN X197.here hx rfl (hb hby at_106) rfl k) ?_
            show own_Go p e below s _ _ _ (T197.setTop (mkF m 107 #[.val (.long p1), .second, .val (.long p2), .second, .val (.long p3), .second, .val (.long p4), .second, .val (.int p5), .val (.int (p5 &&& (3 : Int32))), .val (.int ((XT.ushr p5 (2 : Int32)) &&& (3 : Int32))), .val (.long p3), .second, .val (.long p2), .second, .val (.ref b181), .val (.ref b192), .unset, .unset, .unset] [(.long p2), (.long p2)]))
            refine own_st (fun _ k => XT.lcmp X197.here hx rfl (hb hby at_107) rfl k) ?_
            show own_Go p e below s _ _ _ (T197.setTop (mkF m 108 #[.val (.long p1), .second, .val (.long p2), .second, .val (.long p3), .second, .val (.long p4), .second, .val (.int p5), .val (.int (p5 &&& (3 : Int32))), .val (.int ((XT.ushr p5 (2 : Int32)) &&& (3 : Int32))), .val (.long p3), .second, .val (.long p2), .second, .val (.ref b181), .val (.ref b192), .unset, .unset, .unset] [(.int (XT.cmpL p2 p2))]))
            refine own_st (fun _ k => XS.ifNo X197.here hx rfl (hb hby at_108) rfl (XT.ll_ne_f rfl) k) ?_
            show own_Go p e below s _ _ _ (T197.setTop (mkF m 111 #[.val (.long p1), .second, .val (.long p2), .second, .val (.long p3), .second, .val (.long p4), .second, .val (.int p5), .val (.int (p5 &&& (3 : Int32))), .val (.int ((XT.ushr p5 (2 : Int32)) &&& (3 : Int32))), .val (.long p3), .second, .val (.long p2), .second, .val (.ref b181), .val (.ref b192), .unset, .unset, .unset] []))
            refine own_st (fun _ k => XT.iconstV X197.here hx rfl (1 : Int32) (hb hby at_111) (by decide) k) ?_
            show own_Go p e below s _ _ _ (T197.setTop (mkF m 112 #[.val (.long p1), .second, .val (.long p2), .second, .val (.long p3), .second, .val (.long p4), .second, .val (.int p5), .val (.int (p5 &&& (3 : Int32))), .val (.int ((XT.ushr p5 (2 : Int32)) &&& (3 : Int32))), .val (.long p3), .second, .val (.long p2), .second, .val (.ref b181), .val (.ref b192), .unset, .unset, .unset] [(.int (1 : Int32))]))
            refine own_st (fun _ k => XS.goto X197.here hx rfl (pc0 := 112) (pc' := 116) rfl (hb hby at_112) (by decide) (by decide) k) ?_
            show own_Go p e below s _ _ _ (T197.setTop (mkF m 116 #[.val (.long p1), .second, .val (.long p2), .second, .val (.long p3), .second, .val (.long p4), .second, .val (.int p5), .val (.int (p5 &&& (3 : Int32))), .val (.int ((XT.ushr p5 (2 : Int32)) &&& (3 : Int32))), .val (.long p3), .second, .val (.long p2), .second, .val (.ref b181), .val (.ref b192), .unset, .unset, .unset] [(.int (1 : Int32))]))
            refine own_st (fun _ k => XS.istore X197.here hx rfl (hb hby at_116) rfl (l' := #[.val (.long p1), .second, .val (.long p2), .second, .val (.long p3), .second, .val (.long p4), .second, .val (.int p5), .val (.int (p5 &&& (3 : Int32))), .val (.int ((XT.ushr p5 (2 : Int32)) &&& (3 : Int32))), .val (.long p3), .second, .val (.long p2), .second, .val (.ref b181), .val (.ref b192), .val (.int (1 : Int32)), .unset, .unset]) rfl k) ?_
            show own_Go p e below s _ _ _ (T197.setTop (mkF m 118 #[.val (.long p1), .second, .val (.long p2), .second, .val (.long p3), .second, .val (.long p4), .second, .val (.int p5), .val (.int (p5 &&& (3 : Int32))), .val (.int ((XT.ushr p5 (2 : Int32)) &&& (3 : Int32))), .val (.long p3), .second, .val (.long p2), .second, .val (.ref b181), .val (.ref b192), .val (.int (1 : Int32)), .unset, .unset] []))
            refine own_st (fun _ k => XS.aload X197.here hx rfl (hb hby at_118) rfl rfl k) ?_
            show own_Go p e below s _ _ _ (T197.setTop (mkF m 120 #[.val (.long p1), .second, .val (.long p2), .second, .val (.long p3), .second, .val (.long p4), .second, .val (.int p5), .val (.int (p5 &&& (3 : Int32))), .val (.int ((XT.ushr p5 (2 : Int32)) &&& (3 : Int32))), .val (.long p3), .second, .val (.long p2), .second, .val (.ref b181), .val (.ref b192), .val (.int (1 : Int32)), .unset, .unset] [(.ref b181)]))
            refine own_st (fun _ k => XS.aload X197.here hx rfl (hb hby at_120) rfl rfl k) ?_
            show own_Go p e below s _ _ _ (T197.setTop (mkF m 122 #[.val (.long p1), .second, .val (.long p2), .second, .val (.long p3), .second, .val (.long p4), .second, .val (.int p5), .val (.int (p5 &&& (3 : Int32))), .val (.int ((XT.ushr p5 (2 : Int32)) &&& (3 : Int32))), .val (.long p3), .second, .val (.long p2), .second, .val (.ref b181), .val (.ref b192), .val (.int (1 : Int32)), .unset, .unset] [(.ref b192), (.ref b181)]))
            have F206 : Exa Z T197.heap b181 "com/example/epoch/epoch/protocol/record/TimestampedOffset" := ((q187.ext E192).keep K197)
            have ne207 : b181 ≠ b192 := Nat.ne_of_lt (Nat.lt_of_lt_of_le (Nat.lt_of_lt_of_le A181.lt K186.1) (Nat.le_of_eq g192.symm))
            have F208 : Fld Z T197.heap b181 "com/example/epoch/epoch/protocol/record/TimestampedOffset" "timestamp" "J" (.long p1) := ((q188.ext E192).keep K197 (ninS ne207 nin0))
            have F209 : Fld Z T197.heap b181 "com/example/epoch/epoch/protocol/record/TimestampedOffset" "offset" "J" (.long p2) := ((q189.ext E192).keep K197 (ninS ne207 nin0))
            obtain ⟨cq205, kq205, q205a, q205b, q205c⟩ := isOf hZ rfl F206
            obtain ⟨_, _, ⟨T205, L205, k205, n205⟩, -, X205, ⟨Lc205, hQ205, l205, y205, z205⟩, st205⟩ := X197.virtualBack hx (y := (⟨"com/example/epoch/epoch/protocol/record/TimestampedOffset", "equals", "(Ljava/lang/Object;)Z"⟩ : MethodName)) (z := (⟨"com/example/epoch/epoch/protocol/record/TimestampedOffset", "equals", "(Ljava/lang/Object;)Z"⟩ : MethodName)) hown (mvT hZ (hw _ (List.mem_of_getElem? (i := 13) rfl))) (mvT hZ (hw _ (List.mem_of_getElem? (i := 14) rfl))) (notFace_of_selects (args := #[]) (mvT hZ (hw _ (List.mem_of_getElem? (i := 16) rfl)))) (mvT hZ (hw _ (List.mem_of_getElem? (i := 16) rfl))) (mvT hZ (hw _ (List.mem_of_getElem? (i := 15) rfl))) (by decide) (backOf (W := 0) (own_rm_eqA l Z a0 hw [] b181 b192 p1 p2 p3 p2 T197.heap n0 Zs202 q198 F208 F209 q199 q200) hZ (hw _ (List.mem_of_getElem? (i := 17) rfl)) (hw _ (List.mem_of_getElem? (i := 2) rfl)) (by decide) (by decide)) q205a q205c (g := (mkF m 122 #[.val (.long p1), .second, .val (.long p2), .second, .val (.long p3), .second, .val (.long p4), .second, .val (.int p5), .val (.int (p5 &&& (3 : Int32))), .val (.int ((XT.ushr p5 (2 : Int32)) &&& (3 : Int32))), .val (.long p3), .second, .val (.long p2), .second, .val (.ref b181), .val (.ref b192), .val (.int (1 : Int32)), .unset, .unset] [(.ref b192), (.ref b181)])) rfl (by rw [hml]; rfl) (Steps.refl _) (argsL := [(.ref b192)]) (rest := []) (lenOf own_pd3 rfl) rfl (by show 2 * 0 + _ ≤ _; exact Nat.le_of_eq rfl) (hb hby at_122) (fun _ _ => ⟨rfl, rfl, (by decide : 2 + 0 ≤ _), (by decide : 4 + 0 ≤ _)⟩)
            dsimp only [Pt.U, Pt.locs, Pt.cells, Pt.slots] at X205 l205 y205 z205 st205 hQ205
            subst l205 y205 z205
            obtain ⟨N205q, rfl, eh205⟩ := hQ205
            have N210 := Fr.app N201 N205q
            refine own_tr st205 ?_
            show own_Go p e below s _ _ _ (T205.setTop (mkF m 125 #[.val (.long p1), .second, .val (.long p2), .second, .val (.long p3), .second, .val (.long p4), .second, .val (.int p5), .val (.int (p5 &&& (3 : Int32))), .val (.int ((XT.ushr p5 (2 : Int32)) &&& (3 : Int32))), .val (.long p3), .second, .val (.long p2), .second, .val (.ref b181), .val (.ref b192), .val (.int (1 : Int32)), .unset, .unset] [(.int (if p1 = p3 then (if p2 = p2 then (1 : Int32) else 0) else 0))]))
            refine own_st (fun _ k => XS.istore X205.here hx rfl (hb hby at_125) rfl (l' := #[.val (.long p1), .second, .val (.long p2), .second, .val (.long p3), .second, .val (.long p4), .second, .val (.int p5), .val (.int (p5 &&& (3 : Int32))), .val (.int ((XT.ushr p5 (2 : Int32)) &&& (3 : Int32))), .val (.long p3), .second, .val (.long p2), .second, .val (.ref b181), .val (.ref b192), .val (.int (1 : Int32)), .val (.int (if p1 = p3 then (if p2 = p2 then (1 : Int32) else 0) else 0)), .unset]) rfl k) ?_
            show own_Go p e below s _ _ _ (T205.setTop (mkF m 127 #[.val (.long p1), .second, .val (.long p2), .second, .val (.long p3), .second, .val (.long p4), .second, .val (.int p5), .val (.int (p5 &&& (3 : Int32))), .val (.int ((XT.ushr p5 (2 : Int32)) &&& (3 : Int32))), .val (.long p3), .second, .val (.long p2), .second, .val (.ref b181), .val (.ref b192), .val (.int (1 : Int32)), .val (.int (if p1 = p3 then (if p2 = p2 then (1 : Int32) else 0) else 0)), .unset] []))
            refine own_st (fun _ k => XS.aload X205.here hx rfl (hb hby at_127) rfl rfl k) ?_
            show own_Go p e below s _ _ _ (T205.setTop (mkF m 129 #[.val (.long p1), .second, .val (.long p2), .second, .val (.long p3), .second, .val (.long p4), .second, .val (.int p5), .val (.int (p5 &&& (3 : Int32))), .val (.int ((XT.ushr p5 (2 : Int32)) &&& (3 : Int32))), .val (.long p3), .second, .val (.long p2), .second, .val (.ref b181), .val (.ref b192), .val (.int (1 : Int32)), .val (.int (if p1 = p3 then (if p2 = p2 then (1 : Int32) else 0) else 0)), .unset] [(.ref b192)]))
            refine own_st (fun _ k => XS.aload X205.here hx rfl (hb hby at_129) rfl rfl k) ?_
            show own_Go p e below s _ _ _ (T205.setTop (mkF m 131 #[.val (.long p1), .second, .val (.long p2), .second, .val (.long p3), .second, .val (.long p4), .second, .val (.int p5), .val (.int (p5 &&& (3 : Int32))), .val (.int ((XT.ushr p5 (2 : Int32)) &&& (3 : Int32))), .val (.long p3), .second, .val (.long p2), .second, .val (.ref b181), .val (.ref b192), .val (.int (1 : Int32)), .val (.int (if p1 = p3 then (if p2 = p2 then (1 : Int32) else 0) else 0)), .unset] [(.ref b181), (.ref b192)]))
            obtain ⟨cq211, kq211, q211a, q211b, q211c⟩ := isOf hZ eh205 q198
            obtain ⟨_, _, ⟨T211, L211, k211, n211⟩, -, X211, ⟨Lc211, hQ211, l211, y211, z211⟩, st211⟩ := X205.virtualBack hx (y := (⟨"com/example/epoch/epoch/protocol/record/TimestampedOffset", "equals", "(Ljava/lang/Object;)Z"⟩ : MethodName)) (z := (⟨"com/example/epoch/epoch/protocol/record/TimestampedOffset", "equals", "(Ljava/lang/Object;)Z"⟩ : MethodName)) hown (mvT hZ (hw _ (List.mem_of_getElem? (i := 13) rfl))) (mvT hZ (hw _ (List.mem_of_getElem? (i := 14) rfl))) (notFace_of_selects (args := #[]) (mvT hZ (hw _ (List.mem_of_getElem? (i := 16) rfl)))) (mvT hZ (hw _ (List.mem_of_getElem? (i := 16) rfl))) (mvT hZ (hw _ (List.mem_of_getElem? (i := 15) rfl))) (by decide) (backOf (W := 0) (own_rm_eqA l Z a0 hw [] b192 b181 p3 p2 p1 p2 T197.heap n0 Zs202 F206 q199 q200 F208 F209) hZ (hw _ (List.mem_of_getElem? (i := 17) rfl)) (hw _ (List.mem_of_getElem? (i := 2) rfl)) (by decide) (by decide)) q211a q211c (g := (mkF m 131 #[.val (.long p1), .second, .val (.long p2), .second, .val (.long p3), .second, .val (.long p4), .second, .val (.int p5), .val (.int (p5 &&& (3 : Int32))), .val (.int ((XT.ushr p5 (2 : Int32)) &&& (3 : Int32))), .val (.long p3), .second, .val (.long p2), .second, .val (.ref b181), .val (.ref b192), .val (.int (1 : Int32)), .val (.int (if p1 = p3 then (if p2 = p2 then (1 : Int32) else 0) else 0)), .unset] [(.ref b181), (.ref b192)])) rfl (by rw [hml]; rfl) (Steps.refl _) (argsL := [(.ref b181)]) (rest := []) (lenOf own_pd3 rfl) rfl (by show 2 * 0 + _ ≤ _; exact Nat.le_of_eq rfl) (hb hby at_131) (fun _ _ => ⟨rfl, eh205, (by decide : 2 + 0 ≤ _), (by decide : 4 + 0 ≤ _)⟩)
            dsimp only [Pt.U, Pt.locs, Pt.cells, Pt.slots] at X211 l211 y211 z211 st211 hQ211
            subst l211 y211 z211
            obtain ⟨N211q, rfl, eh211⟩ := hQ211
            have N212 := Fr.app N210 N211q
            refine own_tr st211 ?_
            show own_Go p e below s _ _ _ (T211.setTop (mkF m 134 #[.val (.long p1), .second, .val (.long p2), .second, .val (.long p3), .second, .val (.long p4), .second, .val (.int p5), .val (.int (p5 &&& (3 : Int32))), .val (.int ((XT.ushr p5 (2 : Int32)) &&& (3 : Int32))), .val (.long p3), .second, .val (.long p2), .second, .val (.ref b181), .val (.ref b192), .val (.int (1 : Int32)), .val (.int (if p1 = p3 then (if p2 = p2 then (1 : Int32) else 0) else 0)), .unset] [(.int (if p3 = p1 then (if p2 = p2 then (1 : Int32) else 0) else 0))]))
            refine own_st (fun _ k => XS.istore X211.here hx rfl (hb hby at_134) rfl (l' := #[.val (.long p1), .second, .val (.long p2), .second, .val (.long p3), .second, .val (.long p4), .second, .val (.int p5), .val (.int (p5 &&& (3 : Int32))), .val (.int ((XT.ushr p5 (2 : Int32)) &&& (3 : Int32))), .val (.long p3), .second, .val (.long p2), .second, .val (.ref b181), .val (.ref b192), .val (.int (1 : Int32)), .val (.int (if p1 = p3 then (if p2 = p2 then (1 : Int32) else 0) else 0)), .val (.int (if p3 = p1 then (if p2 = p2 then (1 : Int32) else 0) else 0))]) rfl k) ?_
            show own_Go p e below s _ _ _ (T211.setTop (mkF m 136 #[.val (.long p1), .second, .val (.long p2), .second, .val (.long p3), .second, .val (.long p4), .second, .val (.int p5), .val (.int (p5 &&& (3 : Int32))), .val (.int ((XT.ushr p5 (2 : Int32)) &&& (3 : Int32))), .val (.long p3), .second, .val (.long p2), .second, .val (.ref b181), .val (.ref b192), .val (.int (1 : Int32)), .val (.int (if p1 = p3 then (if p2 = p2 then (1 : Int32) else 0) else 0)), .val (.int (if p3 = p1 then (if p2 = p2 then (1 : Int32) else 0) else 0))] []))
            refine own_st (fun _ k => XS.iload X211.here hx rfl (hb hby at_136) rfl k) ?_
            show own_Go p e below s _ _ _ (T211.setTop (mkF m 138 #[.val (.long p1), .second, .val (.long p2), .second, .val (.long p3), .second, .val (.long p4), .second, .val (.int p5), .val (.int (p5 &&& (3 : Int32))), .val (.int ((XT.ushr p5 (2 : Int32)) &&& (3 : Int32))), .val (.long p3), .second, .val (.long p2), .second, .val (.ref b181), .val (.ref b192), .val (.int (1 : Int32)), .val (.int (if p1 = p3 then (if p2 = p2 then (1 : Int32) else 0) else 0)), .val (.int (if p3 = p1 then (if p2 = p2 then (1 : Int32) else 0) else 0))] [(.int (if p1 = p3 then (if p2 = p2 then (1 : Int32) else 0) else 0))]))
            refine own_st (fun _ k => XS.iload X211.here hx rfl (hb hby at_138) rfl k) ?_
            show own_Go p e below s _ _ _ (T211.setTop (mkF m 140 #[.val (.long p1), .second, .val (.long p2), .second, .val (.long p3), .second, .val (.long p4), .second, .val (.int p5), .val (.int (p5 &&& (3 : Int32))), .val (.int ((XT.ushr p5 (2 : Int32)) &&& (3 : Int32))), .val (.long p3), .second, .val (.long p2), .second, .val (.ref b181), .val (.ref b192), .val (.int (1 : Int32)), .val (.int (if p1 = p3 then (if p2 = p2 then (1 : Int32) else 0) else 0)), .val (.int (if p3 = p1 then (if p2 = p2 then (1 : Int32) else 0) else 0))] [(.int (1 : Int32)), (.int (if p1 = p3 then (if p2 = p2 then (1 : Int32) else 0) else 0))]))
            refine own_st (fun _ k => XS.icmpNo X211.here hx rfl (hb hby at_140) rfl (XT.ii_ne_f (by simp [hc204, (eq_comm : p1 = p3 ↔ p3 = p1)])) k) ?_
            show own_Go p e below s _ _ _ (T211.setTop (mkF m 143 #[.val (.long p1), .second, .val (.long p2), .second, .val (.long p3), .second, .val (.long p4), .second, .val (.int p5), .val (.int (p5 &&& (3 : Int32))), .val (.int ((XT.ushr p5 (2 : Int32)) &&& (3 : Int32))), .val (.long p3), .second, .val (.long p2), .second, .val (.ref b181), .val (.ref b192), .val (.int (1 : Int32)), .val (.int (if p1 = p3 then (if p2 = p2 then (1 : Int32) else 0) else 0)), .val (.int (if p3 = p1 then (if p2 = p2 then (1 : Int32) else 0) else 0))] []))
            refine own_st (fun _ k => XS.iload X211.here hx rfl (hb hby at_143) rfl k) ?_
            show own_Go p e below s _ _ _ (T211.setTop (mkF m 145 #[.val (.long p1), .second, .val (.long p2), .second, .val (.long p3), .second, .val (.long p4), .second, .val (.int p5), .val (.int (p5 &&& (3 : Int32))), .val (.int ((XT.ushr p5 (2 : Int32)) &&& (3 : Int32))), .val (.long p3), .second, .val (.long p2), .second, .val (.ref b181), .val (.ref b192), .val (.int (1 : Int32)), .val (.int (if p1 = p3 then (if p2 = p2 then (1 : Int32) else 0) else 0)), .val (.int (if p3 = p1 then (if p2 = p2 then (1 : Int32) else 0) else 0))] [(.int (if p3 = p1 then (if p2 = p2 then (1 : Int32) else 0) else 0))]))
            refine own_st (fun _ k => XS.iload X211.here hx rfl (hb hby at_145) rfl k) ?_
            show own_Go p e below s _ _ _ (T211.setTop (mkF m 147 #[.val (.long p1), .second, .val (.long p2), .second, .val (.long p3), .second, .val (.long p4), .second, .val (.int p5), .val (.int (p5 &&& (3 : Int32))), .val (.int ((XT.ushr p5 (2 : Int32)) &&& (3 : Int32))), .val (.long p3), .second, .val (.long p2), .second, .val (.ref b181), .val (.ref b192), .val (.int (1 : Int32)), .val (.int (if p1 = p3 then (if p2 = p2 then (1 : Int32) else 0) else 0)), .val (.int (if p3 = p1 then (if p2 = p2 then (1 : Int32) else 0) else 0))] [(.int (1 : Int32)), (.int (if p3 = p1 then (if p2 = p2 then (1 : Int32) else 0) else 0))]))
            refine own_st (fun _ k => XS.icmpNo X211.here hx rfl (hb hby at_147) rfl (XT.ii_ne_f (by simp [hc204, (eq_comm : p1 = p3 ↔ p3 = p1)])) k) ?_
            show own_Go p e below s _ _ _ (T211.setTop (mkF m 150 #[.val (.long p1), .second, .val (.long p2), .second, .val (.long p3), .second, .val (.long p4), .second, .val (.int p5), .val (.int (p5 &&& (3 : Int32))), .val (.int ((XT.ushr p5 (2 : Int32)) &&& (3 : Int32))), .val (.long p3), .second, .val (.long p2), .second, .val (.ref b181), .val (.ref b192), .val (.int (1 : Int32)), .val (.int (if p1 = p3 then (if p2 = p2 then (1 : Int32) else 0) else 0)), .val (.int (if p3 = p1 then (if p2 = p2 then (1 : Int32) else 0) else 0))] []))
            refine own_st (fun _ k => XT.iconstV X211.here hx rfl (1 : Int32) (hb hby at_150) (by decide) k) ?_
            show own_Go p e below s _ _ _ (T211.setTop (mkF m 151 #[.val (.long p1), .second, .val (.long p2), .second, .val (.long p3), .second, .val (.long p4), .second, .val (.int p5), .val (.int (p5 &&& (3 : Int32))), .val (.int ((XT.ushr p5 (2 : Int32)) &&& (3 : Int32))), .val (.long p3), .second, .val (.long p2), .second, .val (.ref b181), .val (.ref b192), .val (.int (1 : Int32)), .val (.int (if p1 = p3 then (if p2 = p2 then (1 : Int32) else 0) else 0)), .val (.int (if p3 = p1 then (if p2 = p2 then (1 : Int32) else 0) else 0))] [(.int (1 : Int32))]))
            refine own_st (fun _ k => XS.goto X211.here hx rfl (pc0 := 151) (pc' := 155) rfl (hb hby at_151) (by decide) (by decide) k) ?_
            show own_Go p e below s _ _ _ (T211.setTop (mkF m 155 #[.val (.long p1), .second, .val (.long p2), .second, .val (.long p3), .second, .val (.long p4), .second, .val (.int p5), .val (.int (p5 &&& (3 : Int32))), .val (.int ((XT.ushr p5 (2 : Int32)) &&& (3 : Int32))), .val (.long p3), .second, .val (.long p2), .second, .val (.ref b181), .val (.ref b192), .val (.int (1 : Int32)), .val (.int (if p1 = p3 then (if p2 = p2 then (1 : Int32) else 0) else 0)), .val (.int (if p3 = p1 then (if p2 = p2 then (1 : Int32) else 0) else 0))] [(.int (1 : Int32))]))
            refine own_retN X211 hx hlk Bd.returns (t := .boolean) (z' := (1 : Int32)) (by simp) (by decide) (hb hby at_155) (by decide) (by decide) ?_
            rw [eh211]
            exact ⟨N212, rfl⟩
          · refine own_st (fun _ k => XS.ifYes X197.here hx rfl (pc0 := 101) (pc' := 115) rfl (hb hby at_101) rfl (XT.ll_ne_t hc204) (by decide) (by decide) k) ?_
            show own_Go p e below s _ _ _ (T197.setTop (mkF m 115 #[.val (.long p1), .second, .val (.long p2), .second, .val (.long p3), .second, .val (.long p4), .second, .val (.int p5), .val (.int (p5 &&& (3 : Int32))), .val (.int ((XT.ushr p5 (2 : Int32)) &&& (3 : Int32))), .val (.long p3), .second, .val (.long p2), .second, .val (.ref b181), .val (.ref b192), .unset, .unset, .unset] []))
            refine own_st (fun _ k => XT.iconstV X197.here hx rfl (0 : Int32) (hb hby at_115) (by decide) k) ?_
            show own_Go p e below s _ _ _ (T197.setTop (mkF m 116 #[.val (.long p1), .second, .val (.long p2), .second, .val (.long p3), .second, .val (.long p4), .second, .val (.int p5), .val (.int (p5 &&& (3 : Int32))), .val (.int ((XT.ushr p5 (2 : Int32)) &&& (3 : Int32))), .val (.long p3), .second, .val (.long p2), .second, .val (.ref b181), .val (.ref b192), .unset, .unset, .unset] [(.int (0 : Int32))]))
            refine own_st (fun _ k => XS.istore X197.here hx rfl (hb hby at_116) rfl (l' := #[.val (.long p1), .second, .val (.long p2), .second, .val (.long p3), .second, .val (.long p4), .second, .val (.int p5), .val (.int (p5 &&& (3 : Int32))), .val (.int ((XT.ushr p5 (2 : Int32)) &&& (3 : Int32))), .val (.long p3), .second, .val (.long p2), .second, .val (.ref b181), .val (.ref b192), .val (.int (0 : Int32)), .unset, .unset]) rfl k) ?_
            show own_Go p e below s _ _ _ (T197.setTop (mkF m 118 #[.val (.long p1), .second, .val (.long p2), .second, .val (.long p3), .second, .val (.long p4), .second, .val (.int p5), .val (.int (p5 &&& (3 : Int32))), .val (.int ((XT.ushr p5 (2 : Int32)) &&& (3 : Int32))), .val (.long p3), .second, .val (.long p2), .second, .val (.ref b181), .val (.ref b192), .val (.int (0 : Int32)), .unset, .unset] []))
            refine own_st (fun _ k => XS.aload X197.here hx rfl (hb hby at_118) rfl rfl k) ?_
            show own_Go p e below s _ _ _ (T197.setTop (mkF m 120 #[.val (.long p1), .second, .val (.long p2), .second, .val (.long p3), .second, .val (.long p4), .second, .val (.int p5), .val (.int (p5 &&& (3 : Int32))), .val (.int ((XT.ushr p5 (2 : Int32)) &&& (3 : Int32))), .val (.long p3), .second, .val (.long p2), .second, .val (.ref b181), .val (.ref b192), .val (.int (0 : Int32)), .unset, .unset] [(.ref b181)]))
            refine own_st (fun _ k => XS.aload X197.here hx rfl (hb hby at_120) rfl rfl k) ?_
            show own_Go p e below s _ _ _ (T197.setTop (mkF m 122 #[.val (.long p1), .second, .val (.long p2), .second, .val (.long p3), .second, .val (.long p4), .second, .val (.int p5), .val (.int (p5 &&& (3 : Int32))), .val (.int ((XT.ushr p5 (2 : Int32)) &&& (3 : Int32))), .val (.long p3), .second, .val (.long p2), .second, .val (.ref b181), .val (.ref b192), .val (.int (0 : Int32)), .unset, .unset] [(.ref b192), (.ref b181)]))
            have F214 : Exa Z T197.heap b181 "com/example/epoch/epoch/protocol/record/TimestampedOffset" := ((q187.ext E192).keep K197)
            have ne215 : b181 ≠ b192 := Nat.ne_of_lt (Nat.lt_of_lt_of_le (Nat.lt_of_lt_of_le A181.lt K186.1) (Nat.le_of_eq g192.symm))
            have F216 : Fld Z T197.heap b181 "com/example/epoch/epoch/protocol/record/TimestampedOffset" "timestamp" "J" (.long p1) := ((q188.ext E192).keep K197 (ninS ne215 nin0))
            have F217 : Fld Z T197.heap b181 "com/example/epoch/epoch/protocol/record/TimestampedOffset" "offset" "J" (.long p2) := ((q189.ext E192).keep K197 (ninS ne215 nin0))
            obtain ⟨cq213, kq213, q213a, q213b, q213c⟩ := isOf hZ rfl F214
            obtain ⟨_, _, ⟨T213, L213, k213, n213⟩, -, X213, ⟨Lc213, hQ213, l213, y213, z213⟩, st213⟩ := X197.virtualBack hx (y := (⟨"com/example/epoch/epoch/protocol/record/TimestampedOffset", "equals", "(Ljava/lang/Object;)Z"⟩ : MethodName)) (z := (⟨"com/example/epoch/epoch/protocol/record/TimestampedOffset", "equals", "(Ljava/lang/Object;)Z"⟩ : MethodName)) hown (mvT hZ (hw _ (List.mem_of_getElem? (i := 13) rfl))) (mvT hZ (hw _ (List.mem_of_getElem? (i := 14) rfl))) (notFace_of_selects (args := #[]) (mvT hZ (hw _ (List.mem_of_getElem? (i := 16) rfl)))) (mvT hZ (hw _ (List.mem_of_getElem? (i := 16) rfl))) (mvT hZ (hw _ (List.mem_of_getElem? (i := 15) rfl))) (by decide) (backOf (W := 0) (own_rm_eqA l Z a0 hw [] b181 b192 p1 p2 p3 p2 T197.heap n0 Zs202 q198 F216 F217 q199 q200) hZ (hw _ (List.mem_of_getElem? (i := 17) rfl)) (hw _ (List.mem_of_getElem? (i := 2) rfl)) (by decide) (by decide)) q213a q213c (g := (mkF m 122 #[.val (.long p1), .second, .val (.long p2), .second, .val (.long p3), .second, .val (.long p4), .second, .val (.int p5), .val (.int (p5 &&& (3 : Int32))), .val (.int ((XT.ushr p5 (2 : Int32)) &&& (3 : Int32))), .val (.long p3), .second, .val (.long p2), .second, .val (.ref b181), .val (.ref b192), .val (.int (0 : Int32)), .unset, .unset] [(.ref b192), (.ref b181)])) rfl (by rw [hml]; rfl) (Steps.refl _) (argsL := [(.ref b192)]) (rest := []) (lenOf own_pd3 rfl) rfl (by show 2 * 0 + _ ≤ _; exact Nat.le_of_eq rfl) (hb hby at_122) (fun _ _ => ⟨rfl, rfl, (by decide : 2 + 0 ≤ _), (by decide : 4 + 0 ≤ _)⟩)
            dsimp only [Pt.U, Pt.locs, Pt.cells, Pt.slots] at X213 l213 y213 z213 st213 hQ213
            subst l213 y213 z213
            obtain ⟨N213q, rfl, eh213⟩ := hQ213
            have N218 := Fr.app N201 N213q
            refine own_tr st213 ?_
            show own_Go p e below s _ _ _ (T213.setTop (mkF m 125 #[.val (.long p1), .second, .val (.long p2), .second, .val (.long p3), .second, .val (.long p4), .second, .val (.int p5), .val (.int (p5 &&& (3 : Int32))), .val (.int ((XT.ushr p5 (2 : Int32)) &&& (3 : Int32))), .val (.long p3), .second, .val (.long p2), .second, .val (.ref b181), .val (.ref b192), .val (.int (0 : Int32)), .unset, .unset] [(.int (if p1 = p3 then (if p2 = p2 then (1 : Int32) else 0) else 0))]))
            refine own_st (fun _ k => XS.istore X213.here hx rfl (hb hby at_125) rfl (l' := #[.val (.long p1), .second, .val (.long p2), .second, .val (.long p3), .second, .val (.long p4), .second, .val (.int p5), .val (.int (p5 &&& (3 : Int32))), .val (.int ((XT.ushr p5 (2 : Int32)) &&& (3 : Int32))), .val (.long p3), .second, .val (.long p2), .second, .val (.ref b181), .val (.ref b192), .val (.int (0 : Int32)), .val (.int (if p1 = p3 then (if p2 = p2 then (1 : Int32) else 0) else 0)), .unset]) rfl k) ?_
            show own_Go p e below s _ _ _ (T213.setTop (mkF m 127 #[.val (.long p1), .second, .val (.long p2), .second, .val (.long p3), .second, .val (.long p4), .second, .val (.int p5), .val (.int (p5 &&& (3 : Int32))), .val (.int ((XT.ushr p5 (2 : Int32)) &&& (3 : Int32))), .val (.long p3), .second, .val (.long p2), .second, .val (.ref b181), .val (.ref b192), .val (.int (0 : Int32)), .val (.int (if p1 = p3 then (if p2 = p2 then (1 : Int32) else 0) else 0)), .unset] []))
            refine own_st (fun _ k => XS.aload X213.here hx rfl (hb hby at_127) rfl rfl k) ?_
            show own_Go p e below s _ _ _ (T213.setTop (mkF m 129 #[.val (.long p1), .second, .val (.long p2), .second, .val (.long p3), .second, .val (.long p4), .second, .val (.int p5), .val (.int (p5 &&& (3 : Int32))), .val (.int ((XT.ushr p5 (2 : Int32)) &&& (3 : Int32))), .val (.long p3), .second, .val (.long p2), .second, .val (.ref b181), .val (.ref b192), .val (.int (0 : Int32)), .val (.int (if p1 = p3 then (if p2 = p2 then (1 : Int32) else 0) else 0)), .unset] [(.ref b192)]))
            refine own_st (fun _ k => XS.aload X213.here hx rfl (hb hby at_129) rfl rfl k) ?_
            show own_Go p e below s _ _ _ (T213.setTop (mkF m 131 #[.val (.long p1), .second, .val (.long p2), .second, .val (.long p3), .second, .val (.long p4), .second, .val (.int p5), .val (.int (p5 &&& (3 : Int32))), .val (.int ((XT.ushr p5 (2 : Int32)) &&& (3 : Int32))), .val (.long p3), .second, .val (.long p2), .second, .val (.ref b181), .val (.ref b192), .val (.int (0 : Int32)), .val (.int (if p1 = p3 then (if p2 = p2 then (1 : Int32) else 0) else 0)), .unset] [(.ref b181), (.ref b192)]))
            obtain ⟨cq219, kq219, q219a, q219b, q219c⟩ := isOf hZ eh213 q198
            obtain ⟨_, _, ⟨T219, L219, k219, n219⟩, -, X219, ⟨Lc219, hQ219, l219, y219, z219⟩, st219⟩ := X213.virtualBack hx (y := (⟨"com/example/epoch/epoch/protocol/record/TimestampedOffset", "equals", "(Ljava/lang/Object;)Z"⟩ : MethodName)) (z := (⟨"com/example/epoch/epoch/protocol/record/TimestampedOffset", "equals", "(Ljava/lang/Object;)Z"⟩ : MethodName)) hown (mvT hZ (hw _ (List.mem_of_getElem? (i := 13) rfl))) (mvT hZ (hw _ (List.mem_of_getElem? (i := 14) rfl))) (notFace_of_selects (args := #[]) (mvT hZ (hw _ (List.mem_of_getElem? (i := 16) rfl)))) (mvT hZ (hw _ (List.mem_of_getElem? (i := 16) rfl))) (mvT hZ (hw _ (List.mem_of_getElem? (i := 15) rfl))) (by decide) (backOf (W := 0) (own_rm_eqA l Z a0 hw [] b192 b181 p3 p2 p1 p2 T197.heap n0 Zs202 F214 q199 q200 F216 F217) hZ (hw _ (List.mem_of_getElem? (i := 17) rfl)) (hw _ (List.mem_of_getElem? (i := 2) rfl)) (by decide) (by decide)) q219a q219c (g := (mkF m 131 #[.val (.long p1), .second, .val (.long p2), .second, .val (.long p3), .second, .val (.long p4), .second, .val (.int p5), .val (.int (p5 &&& (3 : Int32))), .val (.int ((XT.ushr p5 (2 : Int32)) &&& (3 : Int32))), .val (.long p3), .second, .val (.long p2), .second, .val (.ref b181), .val (.ref b192), .val (.int (0 : Int32)), .val (.int (if p1 = p3 then (if p2 = p2 then (1 : Int32) else 0) else 0)), .unset] [(.ref b181), (.ref b192)])) rfl (by rw [hml]; rfl) (Steps.refl _) (argsL := [(.ref b181)]) (rest := []) (lenOf own_pd3 rfl) rfl (by show 2 * 0 + _ ≤ _; exact Nat.le_of_eq rfl) (hb hby at_131) (fun _ _ => ⟨rfl, eh213, (by decide : 2 + 0 ≤ _), (by decide : 4 + 0 ≤ _)⟩)
            dsimp only [Pt.U, Pt.locs, Pt.cells, Pt.slots] at X219 l219 y219 z219 st219 hQ219
            subst l219 y219 z219
            obtain ⟨N219q, rfl, eh219⟩ := hQ219
            have N220 := Fr.app N218 N219q
            refine own_tr st219 ?_
            show own_Go p e below s _ _ _ (T219.setTop (mkF m 134 #[.val (.long p1), .second, .val (.long p2), .second, .val (.long p3), .second, .val (.long p4), .second, .val (.int p5), .val (.int (p5 &&& (3 : Int32))), .val (.int ((XT.ushr p5 (2 : Int32)) &&& (3 : Int32))), .val (.long p3), .second, .val (.long p2), .second, .val (.ref b181), .val (.ref b192), .val (.int (0 : Int32)), .val (.int (if p1 = p3 then (if p2 = p2 then (1 : Int32) else 0) else 0)), .unset] [(.int (if p3 = p1 then (if p2 = p2 then (1 : Int32) else 0) else 0))]))
            refine own_st (fun _ k => XS.istore X219.here hx rfl (hb hby at_134) rfl (l' := #[.val (.long p1), .second, .val (.long p2), .second, .val (.long p3), .second, .val (.long p4), .second, .val (.int p5), .val (.int (p5 &&& (3 : Int32))), .val (.int ((XT.ushr p5 (2 : Int32)) &&& (3 : Int32))), .val (.long p3), .second, .val (.long p2), .second, .val (.ref b181), .val (.ref b192), .val (.int (0 : Int32)), .val (.int (if p1 = p3 then (if p2 = p2 then (1 : Int32) else 0) else 0)), .val (.int (if p3 = p1 then (if p2 = p2 then (1 : Int32) else 0) else 0))]) rfl k) ?_
            show own_Go p e below s _ _ _ (T219.setTop (mkF m 136 #[.val (.long p1), .second, .val (.long p2), .second, .val (.long p3), .second, .val (.long p4), .second, .val (.int p5), .val (.int (p5 &&& (3 : Int32))), .val (.int ((XT.ushr p5 (2 : Int32)) &&& (3 : Int32))), .val (.long p3), .second, .val (.long p2), .second, .val (.ref b181), .val (.ref b192), .val (.int (0 : Int32)), .val (.int (if p1 = p3 then (if p2 = p2 then (1 : Int32) else 0) else 0)), .val (.int (if p3 = p1 then (if p2 = p2 then (1 : Int32) else 0) else 0))] []))
            refine own_st (fun _ k => XS.iload X219.here hx rfl (hb hby at_136) rfl k) ?_
            show own_Go p e below s _ _ _ (T219.setTop (mkF m 138 #[.val (.long p1), .second, .val (.long p2), .second, .val (.long p3), .second, .val (.long p4), .second, .val (.int p5), .val (.int (p5 &&& (3 : Int32))), .val (.int ((XT.ushr p5 (2 : Int32)) &&& (3 : Int32))), .val (.long p3), .second, .val (.long p2), .second, .val (.ref b181), .val (.ref b192), .val (.int (0 : Int32)), .val (.int (if p1 = p3 then (if p2 = p2 then (1 : Int32) else 0) else 0)), .val (.int (if p3 = p1 then (if p2 = p2 then (1 : Int32) else 0) else 0))] [(.int (if p1 = p3 then (if p2 = p2 then (1 : Int32) else 0) else 0))]))
            refine own_st (fun _ k => XS.iload X219.here hx rfl (hb hby at_138) rfl k) ?_
            show own_Go p e below s _ _ _ (T219.setTop (mkF m 140 #[.val (.long p1), .second, .val (.long p2), .second, .val (.long p3), .second, .val (.long p4), .second, .val (.int p5), .val (.int (p5 &&& (3 : Int32))), .val (.int ((XT.ushr p5 (2 : Int32)) &&& (3 : Int32))), .val (.long p3), .second, .val (.long p2), .second, .val (.ref b181), .val (.ref b192), .val (.int (0 : Int32)), .val (.int (if p1 = p3 then (if p2 = p2 then (1 : Int32) else 0) else 0)), .val (.int (if p3 = p1 then (if p2 = p2 then (1 : Int32) else 0) else 0))] [(.int (0 : Int32)), (.int (if p1 = p3 then (if p2 = p2 then (1 : Int32) else 0) else 0))]))
            refine own_st (fun _ k => XS.icmpNo X219.here hx rfl (hb hby at_140) rfl (XT.ii_ne_f (by simp [hc204, (eq_comm : p1 = p3 ↔ p3 = p1)])) k) ?_
            show own_Go p e below s _ _ _ (T219.setTop (mkF m 143 #[.val (.long p1), .second, .val (.long p2), .second, .val (.long p3), .second, .val (.long p4), .second, .val (.int p5), .val (.int (p5 &&& (3 : Int32))), .val (.int ((XT.ushr p5 (2 : Int32)) &&& (3 : Int32))), .val (.long p3), .second, .val (.long p2), .second, .val (.ref b181), .val (.ref b192), .val (.int (0 : Int32)), .val (.int (if p1 = p3 then (if p2 = p2 then (1 : Int32) else 0) else 0)), .val (.int (if p3 = p1 then (if p2 = p2 then (1 : Int32) else 0) else 0))] []))
            refine own_st (fun _ k => XS.iload X219.here hx rfl (hb hby at_143) rfl k) ?_
            show own_Go p e below s _ _ _ (T219.setTop (mkF m 145 #[.val (.long p1), .second, .val (.long p2), .second, .val (.long p3), .second, .val (.long p4), .second, .val (.int p5), .val (.int (p5 &&& (3 : Int32))), .val (.int ((XT.ushr p5 (2 : Int32)) &&& (3 : Int32))), .val (.long p3), .second, .val (.long p2), .second, .val (.ref b181), .val (.ref b192), .val (.int (0 : Int32)), .val (.int (if p1 = p3 then (if p2 = p2 then (1 : Int32) else 0) else 0)), .val (.int (if p3 = p1 then (if p2 = p2 then (1 : Int32) else 0) else 0))] [(.int (if p3 = p1 then (if p2 = p2 then (1 : Int32) else 0) else 0))]))
            refine own_st (fun _ k => XS.iload X219.here hx rfl (hb hby at_145) rfl k) ?_
            show own_Go p e below s _ _ _ (T219.setTop (mkF m 147 #[.val (.long p1), .second, .val (.long p2), .second, .val (.long p3), .second, .val (.long p4), .second, .val (.int p5), .val (.int (p5 &&& (3 : Int32))), .val (.int ((XT.ushr p5 (2 : Int32)) &&& (3 : Int32))), .val (.long p3), .second, .val (.long p2), .second, .val (.ref b181), .val (.ref b192), .val (.int (0 : Int32)), .val (.int (if p1 = p3 then (if p2 = p2 then (1 : Int32) else 0) else 0)), .val (.int (if p3 = p1 then (if p2 = p2 then (1 : Int32) else 0) else 0))] [(.int (0 : Int32)), (.int (if p3 = p1 then (if p2 = p2 then (1 : Int32) else 0) else 0))]))
            refine own_st (fun _ k => XS.icmpNo X219.here hx rfl (hb hby at_147) rfl (XT.ii_ne_f (by simp [hc204, (eq_comm : p1 = p3 ↔ p3 = p1)])) k) ?_
            show own_Go p e below s _ _ _ (T219.setTop (mkF m 150 #[.val (.long p1), .second, .val (.long p2), .second, .val (.long p3), .second, .val (.long p4), .second, .val (.int p5), .val (.int (p5 &&& (3 : Int32))), .val (.int ((XT.ushr p5 (2 : Int32)) &&& (3 : Int32))), .val (.long p3), .second, .val (.long p2), .second, .val (.ref b181), .val (.ref b192), .val (.int (0 : Int32)), .val (.int (if p1 = p3 then (if p2 = p2 then (1 : Int32) else 0) else 0)), .val (.int (if p3 = p1 then (if p2 = p2 then (1 : Int32) else 0) else 0))] []))
            refine own_st (fun _ k => XT.iconstV X219.here hx rfl (1 : Int32) (hb hby at_150) (by decide) k) ?_
            show own_Go p e below s _ _ _ (T219.setTop (mkF m 151 #[.val (.long p1), .second, .val (.long p2), .second, .val (.long p3), .second, .val (.long p4), .second, .val (.int p5), .val (.int (p5 &&& (3 : Int32))), .val (.int ((XT.ushr p5 (2 : Int32)) &&& (3 : Int32))), .val (.long p3), .second, .val (.long p2), .second, .val (.ref b181), .val (.ref b192), .val (.int (0 : Int32)), .val (.int (if p1 = p3 then (if p2 = p2 then (1 : Int32) else 0) else 0)), .val (.int (if p3 = p1 then (if p2 = p2 then (1 : Int32) else 0) else 0))] [(.int (1 : Int32))]))
            refine own_st (fun _ k => XS.goto X219.here hx rfl (pc0 := 151) (pc' := 155) rfl (hb hby at_151) (by decide) (by decide) k) ?_
            show own_Go p e below s _ _ _ (T219.setTop (mkF m 155 #[.val (.long p1), .second, .val (.long p2), .second, .val (.long p3), .second, .val (.long p4), .second, .val (.int p5), .val (.int (p5 &&& (3 : Int32))), .val (.int ((XT.ushr p5 (2 : Int32)) &&& (3 : Int32))), .val (.long p3), .second, .val (.long p2), .second, .val (.ref b181), .val (.ref b192), .val (.int (0 : Int32)), .val (.int (if p1 = p3 then (if p2 = p2 then (1 : Int32) else 0) else 0)), .val (.int (if p3 = p1 then (if p2 = p2 then (1 : Int32) else 0) else 0))] [(.int (1 : Int32))]))
            refine own_retN X219 hx hlk Bd.returns (t := .boolean) (z' := (1 : Int32)) (by simp) (by decide) (hb hby at_155) (by decide) (by decide) ?_
            rw [eh219]
            exact ⟨N220, rfl⟩
        · refine own_st (fun _ k => XS.ifYes X197.here hx rfl (pc0 := 94) (pc' := 156) rfl (hb hby at_94) rfl (XT.i0_ne_t hc203) (by decide) (by decide) k) ?_
          show own_Go p e below s _ _ _ (T197.setTop (mkF m 156 #[.val (.long p1), .second, .val (.long p2), .second, .val (.long p3), .second, .val (.long p4), .second, .val (.int p5), .val (.int (p5 &&& (3 : Int32))), .val (.int ((XT.ushr p5 (2 : Int32)) &&& (3 : Int32))), .val (.long p3), .second, .val (.long p2), .second, .val (.ref b181), .val (.ref b192), .unset, .unset, .unset] []))
          refine own_st (fun _ k => XS.iload X197.here hx rfl (hb hby at_156) rfl k) ?_
          show own_Go p e below s _ _ _ (T197.setTop (mkF m 158 #[.val (.long p1), .second, .val (.long p2), .second, .val (.long p3), .second, .val (.long p4), .second, .val (.int p5), .val (.int (p5 &&& (3 : Int32))), .val (.int ((XT.ushr p5 (2 : Int32)) &&& (3 : Int32))), .val (.long p3), .second, .val (.long p2), .second, .val (.ref b181), .val (.ref b192), .unset, .unset, .unset] [(.int ((XT.ushr p5 (2 : Int32)) &&& (3 : Int32)))]))
          refine own_st (fun _ k => XT.iconstV X197.here hx rfl (1 : Int32) (hb hby at_158) (by decide) k) ?_
          show own_Go p e below s _ _ _ (T197.setTop (mkF m 159 #[.val (.long p1), .second, .val (.long p2), .second, .val (.long p3), .second, .val (.long p4), .second, .val (.int p5), .val (.int (p5 &&& (3 : Int32))), .val (.int ((XT.ushr p5 (2 : Int32)) &&& (3 : Int32))), .val (.long p3), .second, .val (.long p2), .second, .val (.ref b181), .val (.ref b192), .unset, .unset, .unset] [(.int (1 : Int32)), (.int ((XT.ushr p5 (2 : Int32)) &&& (3 : Int32)))]))
          by_cases hc221 : ((XT.ushr p5 (2 : Int32)) &&& (3 : Int32)) = (1 : Int32)
          · refine own_st (fun _ k => XS.icmpNo X197.here hx rfl (hb hby at_159) rfl (XT.ii_ne_f hc221) k) ?_
            show own_Go p e below s _ _ _ (T197.setTop (mkF m 162 #[.val (.long p1), .second, .val (.long p2), .second, .val (.long p3), .second, .val (.long p4), .second, .val (.int p5), .val (.int (p5 &&& (3 : Int32))), .val (.int ((XT.ushr p5 (2 : Int32)) &&& (3 : Int32))), .val (.long p3), .second, .val (.long p2), .second, .val (.ref b181), .val (.ref b192), .unset, .unset, .unset] []))
            refine own_st (fun _ k => XS.aconstNull X197.here hx rfl (hb hby at_162) k) ?_
            show own_Go p e below s _ _ _ (T197.setTop (mkF m 163 #[.val (.long p1), .second, .val (.long p2), .second, .val (.long p3), .second, .val (.long p4), .second, .val (.int p5), .val (.int (p5 &&& (3 : Int32))), .val (.int ((XT.ushr p5 (2 : Int32)) &&& (3 : Int32))), .val (.long p3), .second, .val (.long p2), .second, .val (.ref b181), .val (.ref b192), .unset, .unset, .unset] [.null]))
            refine own_st (fun _ k => XS.astore X197.here hx rfl (hb hby at_163) rfl rfl (l' := #[.val (.long p1), .second, .val (.long p2), .second, .val (.long p3), .second, .val (.long p4), .second, .val (.int p5), .val (.int (p5 &&& (3 : Int32))), .val (.int ((XT.ushr p5 (2 : Int32)) &&& (3 : Int32))), .val (.long p3), .second, .val (.long p2), .second, .val (.ref b181), .val (.ref b192), .val .null, .unset, .unset]) rfl k) ?_
            show own_Go p e below s _ _ _ (T197.setTop (mkF m 165 #[.val (.long p1), .second, .val (.long p2), .second, .val (.long p3), .second, .val (.long p4), .second, .val (.int p5), .val (.int (p5 &&& (3 : Int32))), .val (.int ((XT.ushr p5 (2 : Int32)) &&& (3 : Int32))), .val (.long p3), .second, .val (.long p2), .second, .val (.ref b181), .val (.ref b192), .val .null, .unset, .unset] []))
            refine own_st (fun _ k => XS.aload X197.here hx rfl (hb hby at_165) rfl rfl k) ?_
            show own_Go p e below s _ _ _ (T197.setTop (mkF m 167 #[.val (.long p1), .second, .val (.long p2), .second, .val (.long p3), .second, .val (.long p4), .second, .val (.int p5), .val (.int (p5 &&& (3 : Int32))), .val (.int ((XT.ushr p5 (2 : Int32)) &&& (3 : Int32))), .val (.long p3), .second, .val (.long p2), .second, .val (.ref b181), .val (.ref b192), .val .null, .unset, .unset] [(.ref b181)]))
            refine own_st (fun _ k => XS.aload X197.here hx rfl (hb hby at_167) rfl rfl k) ?_
            show own_Go p e below s _ _ _ (T197.setTop (mkF m 169 #[.val (.long p1), .second, .val (.long p2), .second, .val (.long p3), .second, .val (.long p4), .second, .val (.int p5), .val (.int (p5 &&& (3 : Int32))), .val (.int ((XT.ushr p5 (2 : Int32)) &&& (3 : Int32))), .val (.long p3), .second, .val (.long p2), .second, .val (.ref b181), .val (.ref b192), .val .null, .unset, .unset] [.null, (.ref b181)]))
            have F223 : Exa Z T197.heap b181 "com/example/epoch/epoch/protocol/record/TimestampedOffset" := ((q187.ext E192).keep K197)
            obtain ⟨cq222, kq222, q222a, q222b, q222c⟩ := isOf hZ rfl F223
            obtain ⟨_, _, ⟨T222, L222, k222, n222⟩, -, X222, ⟨Lc222, hQ222, l222, y222, z222⟩, st222⟩ := X197.virtualBack hx (y := (⟨"com/example/epoch/epoch/protocol/record/TimestampedOffset", "equals", "(Ljava/lang/Object;)Z"⟩ : MethodName)) (z := (⟨"com/example/epoch/epoch/protocol/record/TimestampedOffset", "equals", "(Ljava/lang/Object;)Z"⟩ : MethodName)) hown (mvT hZ (hw _ (List.mem_of_getElem? (i := 13) rfl))) (mvT hZ (hw _ (List.mem_of_getElem? (i := 14) rfl))) (notFace_of_selects (args := #[]) (mvT hZ (hw _ (List.mem_of_getElem? (i := 16) rfl)))) (mvT hZ (hw _ (List.mem_of_getElem? (i := 16) rfl))) (mvT hZ (hw _ (List.mem_of_getElem? (i := 15) rfl))) (by decide) (backOf (W := 0) (own_rm_eqN l Z a0 hw [] b181 T197.heap n0 Zs202 ) hZ (hw _ (List.mem_of_getElem? (i := 17) rfl)) (hw _ (List.mem_of_getElem? (i := 2) rfl)) (by decide) (by decide)) q222a q222c (g := (mkF m 169 #[.val (.long p1), .second, .val (.long p2), .second, .val (.long p3), .second, .val (.long p4), .second, .val (.int p5), .val (.int (p5 &&& (3 : Int32))), .val (.int ((XT.ushr p5 (2 : Int32)) &&& (3 : Int32))), .val (.long p3), .second, .val (.long p2), .second, .val (.ref b181), .val (.ref b192), .val .null, .unset, .unset] [.null, (.ref b181)])) rfl (by rw [hml]; rfl) (Steps.refl _) (argsL := [.null]) (rest := []) (lenOf own_pd3 rfl) rfl (by show 2 * 0 + _ ≤ _; exact Nat.le_of_eq rfl) (hb hby at_169) (fun _ _ => ⟨rfl, rfl, (by decide : 2 + 0 ≤ _), (by decide : 4 + 0 ≤ _)⟩)
            dsimp only [Pt.U, Pt.locs, Pt.cells, Pt.slots] at X222 l222 y222 z222 st222 hQ222
            subst l222 y222 z222
            obtain ⟨N222q, rfl, eh222⟩ := hQ222
            have N224 := Fr.app N201 N222q
            refine own_tr st222 ?_
            show own_Go p e below s _ _ _ (T222.setTop (mkF m 172 #[.val (.long p1), .second, .val (.long p2), .second, .val (.long p3), .second, .val (.long p4), .second, .val (.int p5), .val (.int (p5 &&& (3 : Int32))), .val (.int ((XT.ushr p5 (2 : Int32)) &&& (3 : Int32))), .val (.long p3), .second, .val (.long p2), .second, .val (.ref b181), .val (.ref b192), .val .null, .unset, .unset] [(.int (0 : Int32))]))
            refine own_st (fun _ k => XS.ifNo X222.here hx rfl (hb hby at_172) rfl (XT.i0_ne_f (by decide)) k) ?_
            show own_Go p e below s _ _ _ (T222.setTop (mkF m 175 #[.val (.long p1), .second, .val (.long p2), .second, .val (.long p3), .second, .val (.long p4), .second, .val (.int p5), .val (.int (p5 &&& (3 : Int32))), .val (.int ((XT.ushr p5 (2 : Int32)) &&& (3 : Int32))), .val (.long p3), .second, .val (.long p2), .second, .val (.ref b181), .val (.ref b192), .val .null, .unset, .unset] []))
            refine own_st (fun _ k => XT.iconstV X222.here hx rfl (1 : Int32) (hb hby at_175) (by decide) k) ?_
            show own_Go p e below s _ _ _ (T222.setTop (mkF m 176 #[.val (.long p1), .second, .val (.long p2), .second, .val (.long p3), .second, .val (.long p4), .second, .val (.int p5), .val (.int (p5 &&& (3 : Int32))), .val (.int ((XT.ushr p5 (2 : Int32)) &&& (3 : Int32))), .val (.long p3), .second, .val (.long p2), .second, .val (.ref b181), .val (.ref b192), .val .null, .unset, .unset] [(.int (1 : Int32))]))
            refine own_st (fun _ k => XS.goto X222.here hx rfl (pc0 := 176) (pc' := 180) rfl (hb hby at_176) (by decide) (by decide) k) ?_
            show own_Go p e below s _ _ _ (T222.setTop (mkF m 180 #[.val (.long p1), .second, .val (.long p2), .second, .val (.long p3), .second, .val (.long p4), .second, .val (.int p5), .val (.int (p5 &&& (3 : Int32))), .val (.int ((XT.ushr p5 (2 : Int32)) &&& (3 : Int32))), .val (.long p3), .second, .val (.long p2), .second, .val (.ref b181), .val (.ref b192), .val .null, .unset, .unset] [(.int (1 : Int32))]))
            refine own_retN X222 hx hlk Bd.returns (t := .boolean) (z' := (1 : Int32)) (by simp) (by decide) (hb hby at_180) (by decide) (by decide) ?_
            rw [eh222]
            exact ⟨N224, rfl⟩
          · refine own_st (fun _ k => XS.icmpYes X197.here hx rfl (pc0 := 159) (pc' := 181) rfl (hb hby at_159) rfl (XT.ii_ne_t hc221) (by decide) (by decide) k) ?_
            show own_Go p e below s _ _ _ (T197.setTop (mkF m 181 #[.val (.long p1), .second, .val (.long p2), .second, .val (.long p3), .second, .val (.long p4), .second, .val (.int p5), .val (.int (p5 &&& (3 : Int32))), .val (.int ((XT.ushr p5 (2 : Int32)) &&& (3 : Int32))), .val (.long p3), .second, .val (.long p2), .second, .val (.ref b181), .val (.ref b192), .unset, .unset, .unset] []))
            refine own_st (fun _ k => XS.iload X197.here hx rfl (hb hby at_181) rfl k) ?_
            show own_Go p e below s _ _ _ (T197.setTop (mkF m 183 #[.val (.long p1), .second, .val (.long p2), .second, .val (.long p3), .second, .val (.long p4), .second, .val (.int p5), .val (.int (p5 &&& (3 : Int32))), .val (.int ((XT.ushr p5 (2 : Int32)) &&& (3 : Int32))), .val (.long p3), .second, .val (.long p2), .second, .val (.ref b181), .val (.ref b192), .unset, .unset, .unset] [(.int ((XT.ushr p5 (2 : Int32)) &&& (3 : Int32)))]))
            refine own_st (fun _ k => XT.iconstV X197.here hx rfl (2 : Int32) (hb hby at_183) (by decide) k) ?_
            show own_Go p e below s _ _ _ (T197.setTop (mkF m 184 #[.val (.long p1), .second, .val (.long p2), .second, .val (.long p3), .second, .val (.long p4), .second, .val (.int p5), .val (.int (p5 &&& (3 : Int32))), .val (.int ((XT.ushr p5 (2 : Int32)) &&& (3 : Int32))), .val (.long p3), .second, .val (.long p2), .second, .val (.ref b181), .val (.ref b192), .unset, .unset, .unset] [(.int (2 : Int32)), (.int ((XT.ushr p5 (2 : Int32)) &&& (3 : Int32)))]))
            by_cases hc225 : ((XT.ushr p5 (2 : Int32)) &&& (3 : Int32)) = (2 : Int32)
            · refine own_st (fun _ k => XS.icmpNo X197.here hx rfl (hb hby at_184) rfl (XT.ii_ne_f hc225) k) ?_
              show own_Go p e below s _ _ _ (T197.setTop (mkF m 187 #[.val (.long p1), .second, .val (.long p2), .second, .val (.long p3), .second, .val (.long p4), .second, .val (.int p5), .val (.int (p5 &&& (3 : Int32))), .val (.int ((XT.ushr p5 (2 : Int32)) &&& (3 : Int32))), .val (.long p3), .second, .val (.long p2), .second, .val (.ref b181), .val (.ref b192), .unset, .unset, .unset] []))
              refine own_st (fun _ k => XT.lloadN X197.here hx rfl (hb hby at_187) rfl k) ?_
              show own_Go p e below s _ _ _ (T197.setTop (mkF m 188 #[.val (.long p1), .second, .val (.long p2), .second, .val (.long p3), .second, .val (.long p4), .second, .val (.int p5), .val (.int (p5 &&& (3 : Int32))), .val (.int ((XT.ushr p5 (2 : Int32)) &&& (3 : Int32))), .val (.long p3), .second, .val (.long p2), .second, .val (.ref b181), .val (.ref b192), .unset, .unset, .unset] [(.long p1)]))
              have O227 : Old Z n0 T197.heap := ((((O0.ext E181).keep K186 (allS g183 all0)).ext E192).keep K197 (allS g194 all0))
              obtain ⟨_, _, ⟨T226, L226, k226, n226⟩, -, X226, ⟨Lc226, hQ226, l226, y226, z226⟩, st226⟩ := Jvm.LawKit.callS X197 hx (y := (⟨"java/lang/Long", "valueOf", "(J)Ljava/lang/Long;"⟩ : MethodName)) hown (mvT hZ (hw _ (List.mem_of_getElem? (i := 20) rfl))) (mvT hZ (hw _ (List.mem_of_getElem? (i := 21) rfl))) (mvT hZ (hw _ (List.mem_of_getElem? (i := 22) rfl))) (mvT hZ (hw _ (List.mem_of_getElem? (i := 23) rfl))) (by decide) (backOf (W := 0) (own_rm_valueOfJ l Z a0 hw [] p1 a_cacheJ T197.heap n0 Zs202 O227 S_cacheJ BxJ) hZ (hw _ (List.mem_of_getElem? (i := 23) rfl)) (hw _ (List.mem_of_getElem? (i := 22) rfl)) (by decide) (by decide)) (g := (mkF m 188 #[.val (.long p1), .second, .val (.long p2), .second, .val (.long p3), .second, .val (.long p4), .second, .val (.int p5), .val (.int (p5 &&& (3 : Int32))), .val (.int ((XT.ushr p5 (2 : Int32)) &&& (3 : Int32))), .val (.long p3), .second, .val (.long p2), .second, .val (.ref b181), .val (.ref b192), .unset, .unset, .unset] [(.long p1)])) rfl (by rw [hml]; rfl) (argsL := [(.long p1)]) (rest := []) (lenOf own_pd4 rfl) rfl (by show 2 * 0 + _ ≤ _; exact Nat.le_of_eq rfl) (hb hby at_188) (fun _ _ => ⟨rfl, rfl, (by decide : 2 + 1 ≤ _), (by decide : 4 + 1 ≤ _)⟩)
              dsimp only [Pt.U, Pt.locs, Pt.cells, Pt.slots] at X226 l226 y226 z226 st226 hQ226
              subst l226 y226 z226
              obtain ⟨x228, N226q, rfl, K226, q229, q230⟩ := hQ226
              have N231 := Fr.app N201 N226q
              refine own_st st226 ?_
              have Zs232 : n0 ≤ T226.heap.size := Nat.le_trans Zs202 K226.1
              show own_Go p e below s _ _ _ (T226.setTop (mkF m 191 #[.val (.long p1), .second, .val (.long p2), .second, .val (.long p3), .second, .val (.long p4), .second, .val (.int p5), .val (.int (p5 &&& (3 : Int32))), .val (.int ((XT.ushr p5 (2 : Int32)) &&& (3 : Int32))), .val (.long p3), .second, .val (.long p2), .second, .val (.ref b181), .val (.ref b192), .unset, .unset, .unset] [(.ref x228)]))
              refine own_st (fun _ k => XS.astore X226.here hx rfl (hb hby at_191) rfl rfl (l' := #[.val (.long p1), .second, .val (.long p2), .second, .val (.long p3), .second, .val (.long p4), .second, .val (.int p5), .val (.int (p5 &&& (3 : Int32))), .val (.int ((XT.ushr p5 (2 : Int32)) &&& (3 : Int32))), .val (.long p3), .second, .val (.long p2), .second, .val (.ref b181), .val (.ref b192), .val (.ref x228), .unset, .unset]) rfl k) ?_
              show own_Go p e below s _ _ _ (T226.setTop (mkF m 193 #[.val (.long p1), .second, .val (.long p2), .second, .val (.long p3), .second, .val (.long p4), .second, .val (.int p5), .val (.int (p5 &&& (3 : Int32))), .val (.int ((XT.ushr p5 (2 : Int32)) &&& (3 : Int32))), .val (.long p3), .second, .val (.long p2), .second, .val (.ref b181), .val (.ref b192), .val (.ref x228), .unset, .unset] []))
              refine own_st (fun _ k => XS.aload X226.here hx rfl (hb hby at_193) rfl rfl k) ?_
              show own_Go p e below s _ _ _ (T226.setTop (mkF m 195 #[.val (.long p1), .second, .val (.long p2), .second, .val (.long p3), .second, .val (.long p4), .second, .val (.int p5), .val (.int (p5 &&& (3 : Int32))), .val (.int ((XT.ushr p5 (2 : Int32)) &&& (3 : Int32))), .val (.long p3), .second, .val (.long p2), .second, .val (.ref b181), .val (.ref b192), .val (.ref x228), .unset, .unset] [(.ref b181)]))
              refine own_st (fun _ k => XS.aload X226.here hx rfl (hb hby at_195) rfl rfl k) ?_
              show own_Go p e below s _ _ _ (T226.setTop (mkF m 197 #[.val (.long p1), .second, .val (.long p2), .second, .val (.long p3), .second, .val (.long p4), .second, .val (.int p5), .val (.int (p5 &&& (3 : Int32))), .val (.int ((XT.ushr p5 (2 : Int32)) &&& (3 : Int32))), .val (.long p3), .second, .val (.long p2), .second, .val (.ref b181), .val (.ref b192), .val (.ref x228), .unset, .unset] [(.ref x228), (.ref b181)]))
              have F234 : Exa Z T226.heap b181 "com/example/epoch/epoch/protocol/record/TimestampedOffset" := (((q187.ext E192).keep K197).keep K226)
              obtain ⟨cq233, kq233, q233a, q233b, q233c⟩ := isOf hZ rfl F234
              obtain ⟨_, _, ⟨T233, L233, k233, n233⟩, -, X233, ⟨Lc233, hQ233, l233, y233, z233⟩, st233⟩ := X226.virtualBack hx (y := (⟨"com/example/epoch/epoch/protocol/record/TimestampedOffset", "equals", "(Ljava/lang/Object;)Z"⟩ : MethodName)) (z := (⟨"com/example/epoch/epoch/protocol/record/TimestampedOffset", "equals", "(Ljava/lang/Object;)Z"⟩ : MethodName)) hown (mvT hZ (hw _ (List.mem_of_getElem? (i := 13) rfl))) (mvT hZ (hw _ (List.mem_of_getElem? (i := 14) rfl))) (notFace_of_selects (args := #[]) (mvT hZ (hw _ (List.mem_of_getElem? (i := 16) rfl)))) (mvT hZ (hw _ (List.mem_of_getElem? (i := 16) rfl))) (mvT hZ (hw _ (List.mem_of_getElem? (i := 15) rfl))) (by decide) (backOf (W := 0) (own_rm_eqL l Z a0 hw [] b181 x228 T226.heap n0 Zs232 q229) hZ (hw _ (List.mem_of_getElem? (i := 17) rfl)) (hw _ (List.mem_of_getElem? (i := 2) rfl)) (by decide) (by decide)) q233a q233c (g := (mkF m 197 #[.val (.long p1), .second, .val (.long p2), .second, .val (.long p3), .second, .val (.long p4), .second, .val (.int p5), .val (.int (p5 &&& (3 : Int32))), .val (.int ((XT.ushr p5 (2 : Int32)) &&& (3 : Int32))), .val (.long p3), .second, .val (.long p2), .second, .val (.ref b181), .val (.ref b192), .val (.ref x228), .unset, .unset] [(.ref x228), (.ref b181)])) rfl (by rw [hml]; rfl) (Steps.refl _) (argsL := [(.ref x228)]) (rest := []) (lenOf own_pd3 rfl) rfl (by show 2 * 0 + _ ≤ _; exact Nat.le_of_eq rfl) (hb hby at_197) (fun _ _ => ⟨rfl, rfl, (by decide : 3 + 0 ≤ _), (by decide : 5 + 0 ≤ _)⟩)
              dsimp only [Pt.U, Pt.locs, Pt.cells, Pt.slots] at X233 l233 y233 z233 st233 hQ233
              subst l233 y233 z233
              obtain ⟨N233q, rfl, eh233⟩ := hQ233
              have N235 := Fr.app N231 N233q
              refine own_tr st233 ?_
              show own_Go p e below s _ _ _ (T233.setTop (mkF m 200 #[.val (.long p1), .second, .val (.long p2), .second, .val (.long p3), .second, .val (.long p4), .second, .val (.int p5), .val (.int (p5 &&& (3 : Int32))), .val (.int ((XT.ushr p5 (2 : Int32)) &&& (3 : Int32))), .val (.long p3), .second, .val (.long p2), .second, .val (.ref b181), .val (.ref b192), .val (.ref x228), .unset, .unset] [(.int (0 : Int32))]))
              refine own_st (fun _ k => XS.ifNo X233.here hx rfl (hb hby at_200) rfl (XT.i0_ne_f (by decide)) k) ?_
              show own_Go p e below s _ _ _ (T233.setTop (mkF m 203 #[.val (.long p1), .second, .val (.long p2), .second, .val (.long p3), .second, .val (.long p4), .second, .val (.int p5), .val (.int (p5 &&& (3 : Int32))), .val (.int ((XT.ushr p5 (2 : Int32)) &&& (3 : Int32))), .val (.long p3), .second, .val (.long p2), .second, .val (.ref b181), .val (.ref b192), .val (.ref x228), .unset, .unset] []))
              refine own_st (fun _ k => XT.iconstV X233.here hx rfl (1 : Int32) (hb hby at_203) (by decide) k) ?_
              show own_Go p e below s _ _ _ (T233.setTop (mkF m 204 #[.val (.long p1), .second, .val (.long p2), .second, .val (.long p3), .second, .val (.long p4), .second, .val (.int p5), .val (.int (p5 &&& (3 : Int32))), .val (.int ((XT.ushr p5 (2 : Int32)) &&& (3 : Int32))), .val (.long p3), .second, .val (.long p2), .second, .val (.ref b181), .val (.ref b192), .val (.ref x228), .unset, .unset] [(.int (1 : Int32))]))
              refine own_st (fun _ k => XS.goto X233.here hx rfl (pc0 := 204) (pc' := 208) rfl (hb hby at_204) (by decide) (by decide) k) ?_
              show own_Go p e below s _ _ _ (T233.setTop (mkF m 208 #[.val (.long p1), .second, .val (.long p2), .second, .val (.long p3), .second, .val (.long p4), .second, .val (.int p5), .val (.int (p5 &&& (3 : Int32))), .val (.int ((XT.ushr p5 (2 : Int32)) &&& (3 : Int32))), .val (.long p3), .second, .val (.long p2), .second, .val (.ref b181), .val (.ref b192), .val (.ref x228), .unset, .unset] [(.int (1 : Int32))]))
              refine own_retN X233 hx hlk Bd.returns (t := .boolean) (z' := (1 : Int32)) (by simp) (by decide) (hb hby at_208) (by decide) (by decide) ?_
              rw [eh233]
              exact ⟨N235, rfl⟩
            · refine own_st (fun _ k => XS.icmpYes X197.here hx rfl (pc0 := 184) (pc' := 209) rfl (hb hby at_184) rfl (XT.ii_ne_t hc225) (by decide) (by decide) k) ?_
              show own_Go p e below s _ _ _ (T197.setTop (mkF m 209 #[.val (.long p1), .second, .val (.long p2), .second, .val (.long p3), .second, .val (.long p4), .second, .val (.int p5), .val (.int (p5 &&& (3 : Int32))), .val (.int ((XT.ushr p5 (2 : Int32)) &&& (3 : Int32))), .val (.long p3), .second, .val (.long p2), .second, .val (.ref b181), .val (.ref b192), .unset, .unset, .unset] []))
              refine own_st (fun _ k => XS.aload X197.here hx rfl (hb hby at_209) rfl rfl k) ?_
              show own_Go p e below s _ _ _ (T197.setTop (mkF m 211 #[.val (.long p1), .second, .val (.long p2), .second, .val (.long p3), .second, .val (.long p4), .second, .val (.int p5), .val (.int (p5 &&& (3 : Int32))), .val (.int ((XT.ushr p5 (2 : Int32)) &&& (3 : Int32))), .val (.long p3), .second, .val (.long p2), .second, .val (.ref b181), .val (.ref b192), .unset, .unset, .unset] [(.ref b181)]))
              refine own_st (fun _ k => XS.astore X197.here hx rfl (hb hby at_211) rfl rfl (l' := #[.val (.long p1), .second, .val (.long p2), .second, .val (.long p3), .second, .val (.long p4), .second, .val (.int p5), .val (.int (p5 &&& (3 : Int32))), .val (.int ((XT.ushr p5 (2 : Int32)) &&& (3 : Int32))), .val (.long p3), .second, .val (.long p2), .second, .val (.ref b181), .val (.ref b192), .val (.ref b181), .unset, .unset]) rfl k) ?_
              show own_Go p e below s _ _ _ (T197.setTop (mkF m 213 #[.val (.long p1), .second, .val (.long p2), .second, .val (.long p3), .second, .val (.long p4), .second, .val (.int p5), .val (.int (p5 &&& (3 : Int32))), .val (.int ((XT.ushr p5 (2 : Int32)) &&& (3 : Int32))), .val (.long p3), .second, .val (.long p2), .second, .val (.ref b181), .val (.ref b192), .val (.ref b181), .unset, .unset] []))
              refine own_st (fun _ k => XS.aload X197.here hx rfl (hb hby at_213) rfl rfl k) ?_
              show own_Go p e below s _ _ _ (T197.setTop (mkF m 215 #[.val (.long p1), .second, .val (.long p2), .second, .val (.long p3), .second, .val (.long p4), .second, .val (.int p5), .val (.int (p5 &&& (3 : Int32))), .val (.int ((XT.ushr p5 (2 : Int32)) &&& (3 : Int32))), .val (.long p3), .second, .val (.long p2), .second, .val (.ref b181), .val (.ref b192), .val (.ref b181), .unset, .unset] [(.ref b181)]))
              refine own_st (fun _ k => XS.aload X197.here hx rfl (hb hby at_215) rfl rfl k) ?_
              show own_Go p e below s _ _ _ (T197.setTop (mkF m 217 #[.val (.long p1), .second, .val (.long p2), .second, .val (.long p3), .second, .val (.long p4), .second, .val (.int p5), .val (.int (p5 &&& (3 : Int32))), .val (.int ((XT.ushr p5 (2 : Int32)) &&& (3 : Int32))), .val (.long p3), .second, .val (.long p2), .second, .val (.ref b181), .val (.ref b192), .val (.ref b181), .unset, .unset] [(.ref b181), (.ref b181)]))
              have F237 : Exa Z T197.heap b181 "com/example/epoch/epoch/protocol/record/TimestampedOffset" := ((q187.ext E192).keep K197)
              have ne238 : b181 ≠ b192 := Nat.ne_of_lt (Nat.lt_of_lt_of_le (Nat.lt_of_lt_of_le A181.lt K186.1) (Nat.le_of_eq g192.symm))
              have F239 : Fld Z T197.heap b181 "com/example/epoch/epoch/protocol/record/TimestampedOffset" "timestamp" "J" (.long p1) := ((q188.ext E192).keep K197 (ninS ne238 nin0))
              have F240 : Fld Z T197.heap b181 "com/example/epoch/epoch/protocol/record/TimestampedOffset" "offset" "J" (.long p2) := ((q189.ext E192).keep K197 (ninS ne238 nin0))
              obtain ⟨cq236, kq236, q236a, q236b, q236c⟩ := isOf hZ rfl F237
              obtain ⟨_, _, ⟨T236, L236, k236, n236⟩, -, X236, ⟨Lc236, hQ236, l236, y236, z236⟩, st236⟩ := X197.virtualBack hx (y := (⟨"com/example/epoch/epoch/protocol/record/TimestampedOffset", "equals", "(Ljava/lang/Object;)Z"⟩ : MethodName)) (z := (⟨"com/example/epoch/epoch/protocol/record/TimestampedOffset", "equals", "(Ljava/lang/Object;)Z"⟩ : MethodName)) hown (mvT hZ (hw _ (List.mem_of_getElem? (i := 13) rfl))) (mvT hZ (hw _ (List.mem_of_getElem? (i := 14) rfl))) (notFace_of_selects (args := #[]) (mvT hZ (hw _ (List.mem_of_getElem? (i := 16) rfl)))) (mvT hZ (hw _ (List.mem_of_getElem? (i := 16) rfl))) (mvT hZ (hw _ (List.mem_of_getElem? (i := 15) rfl))) (by decide) (backOf (W := 0) (own_rm_eqA l Z a0 hw [] b181 b181 p1 p2 p1 p2 T197.heap n0 Zs202 F237 F239 F240 F239 F240) hZ (hw _ (List.mem_of_getElem? (i := 17) rfl)) (hw _ (List.mem_of_getElem? (i := 2) rfl)) (by decide) (by decide)) q236a q236c (g := (mkF m 217 #[.val (.long p1), .second, .val (.long p2), .second, .val (.long p3), .second, .val (.long p4), .second, .val (.int p5), .val (.int (p5 &&& (3 : Int32))), .val (.int ((XT.ushr p5 (2 : Int32)) &&& (3 : Int32))), .val (.long p3), .second, .val (.long p2), .second, .val (.ref b181), .val (.ref b192), .val (.ref b181), .unset, .unset] [(.ref b181), (.ref b181)])) rfl (by rw [hml]; rfl) (Steps.refl _) (argsL := [(.ref b181)]) (rest := []) (lenOf own_pd3 rfl) rfl (by show 2 * 0 + _ ≤ _; exact Nat.le_of_eq rfl) (hb hby at_217) (fun _ _ => ⟨rfl, rfl, (by decide : 2 + 0 ≤ _), (by decide : 4 + 0 ≤ _)⟩)
              dsimp only [Pt.U, Pt.locs, Pt.cells, Pt.slots] at X236 l236 y236 z236 st236 hQ236
              subst l236 y236 z236
              obtain ⟨N236q, rfl, eh236⟩ := hQ236
              have N241 := Fr.app N201 N236q
              refine own_tr st236 ?_
              show own_Go p e below s _ _ _ (T236.setTop (mkF m 220 #[.val (.long p1), .second, .val (.long p2), .second, .val (.long p3), .second, .val (.long p4), .second, .val (.int p5), .val (.int (p5 &&& (3 : Int32))), .val (.int ((XT.ushr p5 (2 : Int32)) &&& (3 : Int32))), .val (.long p3), .second, .val (.long p2), .second, .val (.ref b181), .val (.ref b192), .val (.ref b181), .unset, .unset] [(.int (if p1 = p1 then (if p2 = p2 then (1 : Int32) else 0) else 0))]))
              refine own_retN X236 hx hlk Bd.returns (t := .boolean) (z' := 1) (by simp) (by simp [nar]) (hb hby at_220) (by decide) (by decide) ?_
              rw [eh236]
              exact ⟨N241, rfl⟩
      · refine own_st (fun _ k => XS.icmpYes X0.here hx rfl (pc0 := 47) (pc' := 60) rfl (hb hby at_47) rfl (XT.ii_ne_t hc180) (by decide) (by decide) k) ?_
        show own_Go p e below s _ _ _ (s₁.setTop (mkF m 60 #[.val (.long p1), .second, .val (.long p2), .second, .val (.long p3), .second, .val (.long p4), .second, .val (.int p5), .val (.int (p5 &&& (3 : Int32))), .val (.int ((XT.ushr p5 (2 : Int32)) &&& (3 : Int32))), .unset, .unset, .unset, .unset, .unset, .unset, .unset, .unset, .unset] []))
        refine own_st (fun _ k => XT.lload X0.here hx rfl (hb hby at_60) rfl k) ?_
        show own_Go p e below s _ _ _ (s₁.setTop (mkF m 62 #[.val (.long p1), .second, .val (.long p2), .second, .val (.long p3), .second, .val (.long p4), .second, .val (.int p5), .val (.int (p5 &&& (3 : Int32))), .val (.int ((XT.ushr p5 (2 : Int32)) &&& (3 : Int32))), .unset, .unset, .unset, .unset, .unset, .unset, .unset, .unset, .unset] [(.long p3)]))
        refine own_st (fun _ k => XT.lstore X0.here hx rfl (hb hby at_62) rfl (l' := #[.val (.long p1), .second, .val (.long p2), .second, .val (.long p3), .second, .val (.long p4), .second, .val (.int p5), .val (.int (p5 &&& (3 : Int32))), .val (.int ((XT.ushr p5 (2 : Int32)) &&& (3 : Int32))), .val (.long p3), .second, .unset, .unset, .unset, .unset, .unset, .unset, .unset]) rfl k) ?_
        show own_Go p e below s _ _ _ (s₁.setTop (mkF m 64 #[.val (.long p1), .second, .val (.long p2), .second, .val (.long p3), .second, .val (.long p4), .second, .val (.int p5), .val (.int (p5 &&& (3 : Int32))), .val (.int ((XT.ushr p5 (2 : Int32)) &&& (3 : Int32))), .val (.long p3), .second, .unset, .unset, .unset, .unset, .unset, .unset, .unset] []))
        refine own_st (fun _ k => XT.lload X0.here hx rfl (hb hby at_64) rfl k) ?_
        show own_Go p e below s _ _ _ (s₁.setTop (mkF m 66 #[.val (.long p1), .second, .val (.long p2), .second, .val (.long p3), .second, .val (.long p4), .second, .val (.int p5), .val (.int (p5 &&& (3 : Int32))), .val (.int ((XT.ushr p5 (2 : Int32)) &&& (3 : Int32))), .val (.long p3), .second, .unset, .unset, .unset, .unset, .unset, .unset, .unset] [(.long p4)]))
        refine own_st (fun _ k => XT.lstore X0.here hx rfl (hb hby at_66) rfl (l' := #[.val (.long p1), .second, .val (.long p2), .second, .val (.long p3), .second, .val (.long p4), .second, .val (.int p5), .val (.int (p5 &&& (3 : Int32))), .val (.int ((XT.ushr p5 (2 : Int32)) &&& (3 : Int32))), .val (.long p3), .second, .val (.long p4), .second, .unset, .unset, .unset, .unset, .unset]) rfl k) ?_
        show own_Go p e below s _ _ _ (s₁.setTop (mkF m 68 #[.val (.long p1), .second, .val (.long p2), .second, .val (.long p3), .second, .val (.long p4), .second, .val (.int p5), .val (.int (p5 &&& (3 : Int32))), .val (.int ((XT.ushr p5 (2 : Int32)) &&& (3 : Int32))), .val (.long p3), .second, .val (.long p4), .second, .unset, .unset, .unset, .unset, .unset] []))
        obtain ⟨T242, h242, X242, e242, E242, A242, D242, -, st242⟩ := newO X0 hx hZ hown (hw _ (List.mem_of_getElem? (i := 0) rfl)) (hw _ (List.mem_of_getElem? (i := 1) rfl)) (hw _ (List.mem_of_getElem? (i := 2) rfl)) e0 (g := (mkF m 68 #[.val (.long p1), .second, .val (.long p2), .second, .val (.long p3), .second, .val (.long p4), .second, .val (.int p5), .val (.int (p5 &&& (3 : Int32))), .val (.int ((XT.ushr p5 (2 : Int32)) &&& (3 : Int32))), .val (.long p3), .second, .val (.long p4), .second, .unset, .unset, .unset, .unset, .unset] [])) rfl (hb hby at_68) (by decide) (by decide)
        obtain ⟨b242, g242⟩ : ∃ z, z = h0.size := ⟨_, rfl⟩
        rw [← g242] at A242 D242 st242
        refine own_st st242 ?_
        have Zs243 : n0 ≤ h242.size := Nat.le_trans Z0 E242.1
        have g244 : n0 ≤ b242 := Nat.le_trans Z0 (Nat.le_of_eq g242.symm)
        have F245 : Fld Z h242 b242 "com/example/epoch/epoch/protocol/record/TimestampedOffset" "timestamp" "J" (.long (0 : Int64)) := D242 (Or.inr (hw _ (List.mem_of_getElem? (i := 10) rfl))) (ty := .long) (by decide)
        have F246 : Fld Z h242 b242 "com/example/epoch/epoch/protocol/record/TimestampedOffset" "offset" "J" (.long (0 : Int64)) := D242 (Or.inr (hw _ (List.mem_of_getElem? (i := 12) rfl))) (ty := .long) (by decide)
        show own_Go p e below s _ _ _ (T242.setTop (mkF m 71 #[.val (.long p1), .second, .val (.long p2), .second, .val (.long p3), .second, .val (.long p4), .second, .val (.int p5), .val (.int (p5 &&& (3 : Int32))), .val (.int ((XT.ushr p5 (2 : Int32)) &&& (3 : Int32))), .val (.long p3), .second, .val (.long p4), .second, .unset, .unset, .unset, .unset, .unset] [(.ref b242)]))
        refine own_st (fun _ k => XS.dup X242.here hx rfl (hb hby at_71) rfl rfl k) ?_
        show own_Go p e below s _ _ _ (T242.setTop (mkF m 72 #[.val (.long p1), .second, .val (.long p2), .second, .val (.long p3), .second, .val (.long p4), .second, .val (.int p5), .val (.int (p5 &&& (3 : Int32))), .val (.int ((XT.ushr p5 (2 : Int32)) &&& (3 : Int32))), .val (.long p3), .second, .val (.long p4), .second, .unset, .unset, .unset, .unset, .unset] [(.ref b242), (.ref b242)]))
        refine own_st (fun _ k => XT.lloadN X242.here hx rfl (hb hby at_72) rfl k) ?_
        show own_Go p e below s _ _ _ (T242.setTop (mkF m 73 #[.val (.long p1), .second, .val (.long p2), .second, .val (.long p3), .second, .val (.long p4), .second, .val (.int p5), .val (.int (p5 &&& (3 : Int32))), .val (.int ((XT.ushr p5 (2 : Int32)) &&& (3 : Int32))), .val (.long p3), .second, .val (.long p4), .second, .unset, .unset, .unset, .unset, .unset] [(.long p1), (.ref b242), (.ref b242)]))
        refine own_st (fun _ k => XT.lloadN X242.here hx rfl (hb hby at_73) rfl k) ?_
        show own_Go p e below s _ _ _ (T242.setTop (mkF m 74 #[.val (.long p1), .second, .val (.long p2), .second, .val (.long p3), .second, .val (.long p4), .second, .val (.int p5), .val (.int (p5 &&& (3 : Int32))), .val (.int ((XT.ushr p5 (2 : Int32)) &&& (3 : Int32))), .val (.long p3), .second, .val (.long p4), .second, .unset, .unset, .unset, .unset, .unset] [(.long p2), (.long p1), (.ref b242), (.ref b242)]))
        obtain ⟨_, _, ⟨T247, L247, k247, n247⟩, -, X247, ⟨Lc247, hQ247, l247, y247, z247⟩, st247⟩ := X242.specialBack hx (y := (⟨"com/example/epoch/epoch/protocol/record/TimestampedOffset", "<init>", "(JJ)V"⟩ : MethodName)) rfl hown (mvT hZ (hw _ (List.mem_of_getElem? (i := 3) rfl))) (mvT hZ (hw _ (List.mem_of_getElem? (i := 4) rfl))) (mvT hZ (hw _ (List.mem_of_getElem? (i := 5) rfl))) (by decide) (backOf (W := 1) (own_rm_init l Z a0 hw [] b242 p1 p2 h242 n0 Zs243 A242 F245 F246 g244) hZ (hw _ (List.mem_of_getElem? (i := 5) rfl)) (hw _ (List.mem_of_getElem? (i := 2) rfl)) (by decide) (by decide)) (g := (mkF m 74 #[.val (.long p1), .second, .val (.long p2), .second, .val (.long p3), .second, .val (.long p4), .second, .val (.int p5), .val (.int (p5 &&& (3 : Int32))), .val (.int ((XT.ushr p5 (2 : Int32)) &&& (3 : Int32))), .val (.long p3), .second, .val (.long p4), .second, .unset, .unset, .unset, .unset, .unset] [(.long p2), (.long p1), (.ref b242), (.ref b242)])) rfl (by rw [hml]; rfl) (Steps.refl _) (a := b242) (argsL := [(.long p1), (.long p2)]) (rest := [(.ref b242)]) (lenOf own_pd2 rfl) rfl (by show 2 * 0 + _ ≤ _; exact Nat.le_of_eq rfl) (hb hby at_74) (fun _ _ => ⟨rfl, e242, (by decide : 1 + 0 ≤ _), (by decide : 2 + 0 ≤ _)⟩)
        dsimp only [Pt.U, Pt.locs, Pt.cells, Pt.slots] at X247 l247 y247 z247 st247 hQ247
        subst l247 y247 z247
        obtain ⟨N247q, rfl, K247, q248, q249, q250⟩ := hQ247
        have N251 := Fr.app N0 N247q
        refine own_tr st247 ?_
        have Zs252 : n0 ≤ T247.heap.size := Nat.le_trans Zs243 K247.1
        show own_Go p e below s _ _ _ (T247.setTop (mkF m 77 #[.val (.long p1), .second, .val (.long p2), .second, .val (.long p3), .second, .val (.long p4), .second, .val (.int p5), .val (.int (p5 &&& (3 : Int32))), .val (.int ((XT.ushr p5 (2 : Int32)) &&& (3 : Int32))), .val (.long p3), .second, .val (.long p4), .second, .unset, .unset, .unset, .unset, .unset] [(.ref b242)]))
        refine own_st (fun _ k => XS.astore X247.here hx rfl (hb hby at_77) rfl rfl (l' := #[.val (.long p1), .second, .val (.long p2), .second, .val (.long p3), .second, .val (.long p4), .second, .val (.int p5), .val (.int (p5 &&& (3 : Int32))), .val (.int ((XT.ushr p5 (2 : Int32)) &&& (3 : Int32))), .val (.long p3), .second, .val (.long p4), .second, .val (.ref b242), .unset, .unset, .unset, .unset]) rfl k) ?_
        show own_Go p e below s _ _ _ (T247.setTop (mkF m 79 #[.val (.long p1), .second, .val (.long p2), .second, .val (.long p3), .second, .val (.long p4), .second, .val (.int p5), .val (.int (p5 &&& (3 : Int32))), .val (.int ((XT.ushr p5 (2 : Int32)) &&& (3 : Int32))), .val (.long p3), .second, .val (.long p4), .second, .val (.ref b242), .unset, .unset, .unset, .unset] []))
        obtain ⟨T253, h253, X253, e253, E253, A253, D253, -, st253⟩ := newO X247 hx hZ hown (hw _ (List.mem_of_getElem? (i := 0) rfl)) (hw _ (List.mem_of_getElem? (i := 1) rfl)) (hw _ (List.mem_of_getElem? (i := 2) rfl)) rfl (g := (mkF m 79 #[.val (.long p1), .second, .val (.long p2), .second, .val (.long p3), .second, .val (.long p4), .second, .val (.int p5), .val (.int (p5 &&& (3 : Int32))), .val (.int ((XT.ushr p5 (2 : Int32)) &&& (3 : Int32))), .val (.long p3), .second, .val (.long p4), .second, .val (.ref b242), .unset, .unset, .unset, .unset] [])) rfl (hb hby at_79) (by decide) (by decide)
        obtain ⟨b253, g253⟩ : ∃ z, z = T247.heap.size := ⟨_, rfl⟩
        rw [← g253] at A253 D253 st253
        refine own_st st253 ?_
        have Zs254 : n0 ≤ h253.size := Nat.le_trans Zs252 E253.1
        have g255 : n0 ≤ b253 := Nat.le_trans Zs252 (Nat.le_of_eq g253.symm)
        have F256 : Fld Z h253 b253 "com/example/epoch/epoch/protocol/record/TimestampedOffset" "timestamp" "J" (.long (0 : Int64)) := D253 (Or.inr (hw _ (List.mem_of_getElem? (i := 10) rfl))) (ty := .long) (by decide)
        have F257 : Fld Z h253 b253 "com/example/epoch/epoch/protocol/record/TimestampedOffset" "offset" "J" (.long (0 : Int64)) := D253 (Or.inr (hw _ (List.mem_of_getElem? (i := 12) rfl))) (ty := .long) (by decide)
        show own_Go p e below s _ _ _ (T253.setTop (mkF m 82 #[.val (.long p1), .second, .val (.long p2), .second, .val (.long p3), .second, .val (.long p4), .second, .val (.int p5), .val (.int (p5 &&& (3 : Int32))), .val (.int ((XT.ushr p5 (2 : Int32)) &&& (3 : Int32))), .val (.long p3), .second, .val (.long p4), .second, .val (.ref b242), .unset, .unset, .unset, .unset] [(.ref b253)]))
        refine own_st (fun _ k => XS.dup X253.here hx rfl (hb hby at_82) rfl rfl k) ?_
        show own_Go p e below s _ _ _ (T253.setTop (mkF m 83 #[.val (.long p1), .second, .val (.long p2), .second, .val (.long p3), .second, .val (.long p4), .second, .val (.int p5), .val (.int (p5 &&& (3 : Int32))), .val (.int ((XT.ushr p5 (2 : Int32)) &&& (3 : Int32))), .val (.long p3), .second, .val (.long p4), .second, .val (.ref b242), .unset, .unset, .unset, .unset] [(.ref b253), (.ref b253)]))
        refine own_st (fun _ k => XT.lload X253.here hx rfl (hb hby at_83) rfl k) ?_
        show own_Go p e below s _ _ _ (T253.setTop (mkF m 85 #[.val (.long p1), .second, .val (.long p2), .second, .val (.long p3), .second, .val (.long p4), .second, .val (.int p5), .val (.int (p5 &&& (3 : Int32))), .val (.int ((XT.ushr p5 (2 : Int32)) &&& (3 : Int32))), .val (.long p3), .second, .val (.long p4), .second, .val (.ref b242), .unset, .unset, .unset, .unset] [(.long p3), (.ref b253), (.ref b253)]))
        refine own_st (fun _ k => XT.lload X253.here hx rfl (hb hby at_85) rfl k) ?_
        show own_Go p e below s _ _ _ (T253.setTop (mkF m 87 #[.val (.long p1), .second, .val (.long p2), .second, .val (.long p3), .second, .val (.long p4), .second, .val (.int p5), .val (.int (p5 &&& (3 : Int32))), .val (.int ((XT.ushr p5 (2 : Int32)) &&& (3 : Int32))), .val (.long p3), .second, .val (.long p4), .second, .val (.ref b242), .unset, .unset, .unset, .unset] [(.long p4), (.long p3), (.ref b253), (.ref b253)]))
        obtain ⟨_, _, ⟨T258, L258, k258, n258⟩, -, X258, ⟨Lc258, hQ258, l258, y258, z258⟩, st258⟩ := X253.specialBack hx (y := (⟨"com/example/epoch/epoch/protocol/record/TimestampedOffset", "<init>", "(JJ)V"⟩ : MethodName)) rfl hown (mvT hZ (hw _ (List.mem_of_getElem? (i := 3) rfl))) (mvT hZ (hw _ (List.mem_of_getElem? (i := 4) rfl))) (mvT hZ (hw _ (List.mem_of_getElem? (i := 5) rfl))) (by decide) (backOf (W := 1) (own_rm_init l Z a0 hw [] b253 p3 p4 h253 n0 Zs254 A253 F256 F257 g255) hZ (hw _ (List.mem_of_getElem? (i := 5) rfl)) (hw _ (List.mem_of_getElem? (i := 2) rfl)) (by decide) (by decide)) (g := (mkF m 87 #[.val (.long p1), .second, .val (.long p2), .second, .val (.long p3), .second, .val (.long p4), .second, .val (.int p5), .val (.int (p5 &&& (3 : Int32))), .val (.int ((XT.ushr p5 (2 : Int32)) &&& (3 : Int32))), .val (.long p3), .second, .val (.long p4), .second, .val (.ref b242), .unset, .unset, .unset, .unset] [(.long p4), (.long p3), (.ref b253), (.ref b253)])) rfl (by rw [hml]; rfl) (Steps.refl _) (a := b253) (argsL := [(.long p3), (.long p4)]) (rest := [(.ref b253)]) (lenOf own_pd2 rfl) rfl (by show 2 * 0 + _ ≤ _; exact Nat.le_of_eq rfl) (hb hby at_87) (fun _ _ => ⟨rfl, e253, (by decide : 2 + 0 ≤ _), (by decide : 4 + 0 ≤ _)⟩)
        dsimp only [Pt.U, Pt.locs, Pt.cells, Pt.slots] at X258 l258 y258 z258 st258 hQ258
        subst l258 y258 z258
        obtain ⟨N258q, rfl, K258, q259, q260, q261⟩ := hQ258
        have N262 := Fr.app N251 N258q
        refine own_tr st258 ?_
        have Zs263 : n0 ≤ T258.heap.size := Nat.le_trans Zs254 K258.1
        show own_Go p e below s _ _ _ (T258.setTop (mkF m 90 #[.val (.long p1), .second, .val (.long p2), .second, .val (.long p3), .second, .val (.long p4), .second, .val (.int p5), .val (.int (p5 &&& (3 : Int32))), .val (.int ((XT.ushr p5 (2 : Int32)) &&& (3 : Int32))), .val (.long p3), .second, .val (.long p4), .second, .val (.ref b242), .unset, .unset, .unset, .unset] [(.ref b253)]))
        refine own_st (fun _ k => XS.astore X258.here hx rfl (hb hby at_90) rfl rfl (l' := #[.val (.long p1), .second, .val (.long p2), .second, .val (.long p3), .second, .val (.long p4), .second, .val (.int p5), .val (.int (p5 &&& (3 : Int32))), .val (.int ((XT.ushr p5 (2 : Int32)) &&& (3 : Int32))), .val (.long p3), .second, .val (.long p4), .second, .val (.ref b242), .val (.ref b253), .unset, .unset, .unset]) rfl k) ?_
        show own_Go p e below s _ _ _ (T258.setTop (mkF m 92 #[.val (.long p1), .second, .val (.long p2), .second, .val (.long p3), .second, .val (.long p4), .second, .val (.int p5), .val (.int (p5 &&& (3 : Int32))), .val (.int ((XT.ushr p5 (2 : Int32)) &&& (3 : Int32))), .val (.long p3), .second, .val (.long p4), .second, .val (.ref b242), .val (.ref b253), .unset, .unset, .unset] []))
        refine own_st (fun _ k => XS.iload X258.here hx rfl (hb hby at_92) rfl k) ?_
        show own_Go p e below s _ _ _ (T258.setTop (mkF m 94 #[.val (.long p1), .second, .val (.long p2), .second, .val (.long p3), .second, .val (.long p4), .second, .val (.int p5), .val (.int (p5 &&& (3 : Int32))), .val (.int ((XT.ushr p5 (2 : Int32)) &&& (3 : Int32))), .val (.long p3), .second, .val (.long p4), .second, .val (.ref b242), .val (.ref b253), .unset, .unset, .unset] [(.int ((XT.ushr p5 (2 : Int32)) &&& (3 : Int32)))]))
        by_cases hc264 : ((XT.ushr p5 (2 : Int32)) &&& (3 : Int32)) = 0
        · refine own_st (fun _ k => XS.ifNo X258.here hx rfl (hb hby at_94) rfl (XT.i0_ne_f hc264) k) ?_
          show own_Go p e below s _ _ _ (T258.setTop (mkF m 97 #[.val (.long p1), .second, .val (.long p2), .second, .val (.long p3), .second, .val (.long p4), .second, .val (.int p5), .val (.int (p5 &&& (3 : Int32))), .val (.int ((XT.ushr p5 (2 : Int32)) &&& (3 : Int32))), .val (.long p3), .second, .val (.long p4), .second, .val (.ref b242), .val (.ref b253), .unset, .unset, .unset] []))
          refine own_st (fun _ k => XT.lload X258.here hx rfl (hb hby at_97) rfl k) ?_
          show own_Go p e below s _ _ _ (T258.setTop (mkF m 99 #[.val (.long p1), .second, .val (.long p2), .second, .val (.long p3), .second, .val (.long p4), .second, .val (.int p5), .val (.int (p5 &&& (3 : Int32))), .val (.int ((XT.ushr p5 (2 : Int32)) &&& (3 : Int32))), .val (.long p3), .second, .val (.long p4), .second, .val (.ref b242), .val (.ref b253), .unset, .unset, .unset] [(.long p3)]))
          refine own_st (fun _ k => XT.lloadN X258.here hx rfl (hb hby at_99) rfl k) ?_
          show own_Go p e below s _ _ _ (T258.setTop (mkF m 100 #[.val (.long p1), .second, .val (.long p2), .second, .val (.long p3), .second, .val (.long p4), .second, .val (.int p5), .val (.int (p5 &&& (3 : Int32))), .val (.int ((XT.ushr p5 (2 : Int32)) &&& (3 : Int32))), .val (.long p3), .second, .val (.long p4), .second, .val (.ref b242), .val (.ref b253), .unset, .unset, .unset] [(.long p1), (.long p3)]))
          refine own_st (fun _ k => XT.lcmp X258.here hx rfl (hb hby at_100) rfl k) ?_
          show own_Go p e below s _ _ _ (T258.setTop (mkF m 101 #[.val (.long p1), .second, .val (.long p2), .second, .val (.long p3), .second, .val (.long p4), .second, .val (.int p5), .val (.int (p5 &&& (3 : Int32))), .val (.int ((XT.ushr p5 (2 : Int32)) &&& (3 : Int32))), .val (.long p3), .second, .val (.long p4), .second, .val (.ref b242), .val (.ref b253), .unset, .unset, .unset] [(.int (XT.cmpL p3 p1))]))
          by_cases hc265 : p3 = p1
          · refine own_st (fun _ k => XS.ifNo X258.here hx rfl (hb hby at_101) rfl (XT.ll_ne_f hc265) k) ?_
            show own_Go p e below s _ _ _ (T258.setTop (mkF m 104 #[.val (.long p1), .second, .val (.long p2), .second, .val (.long p3), .second, .val (.long p4), .second, .val (.int p5), .val (.int (p5 &&& (3 : Int32))), .val (.int ((XT.ushr p5 (2 : Int32)) &&& (3 : Int32))), .val (.long p3), .second, .val (.long p4), .second, .val (.ref b242), .val (.ref b253), .unset, .unset, .unset] []))
            refine own_st (fun _ k => XT.lload X258.here hx rfl (hb hby at_104) rfl k) ?_
            show own_Go p e below s _ _ _ (T258.setTop (mkF m 106 #[.val (.long p1), .second, .val (.long p2), .second, .val (.long p3), .second, .val (.long p4), .second, .val (.int p5), .val (.int (p5 &&& (3 : Int32))), .val (.int ((XT.ushr p5 (2 : Int32)) &&& (3 : Int32))), .val (.long p3), .second, .val (.long p4), .second, .val (.ref b242), .val (.ref b253), .unset, .unset, .unset] [(.long p4)]))
            refine own_st (fun _ k => XT.lloadN X258.here hx rfl (hb hby at_106) rfl k) ?_
            show own_Go p e below s _ _ _ (T258.setTop (mkF m 107 #[.val (.long p1), .second, .val (.long p2), .second, .val (.long p3), .second, .val (.long p4), .second, .val (.int p5), .val (.int (p5 &&& (3 : Int32))), .val (.int ((XT.ushr p5 (2 : Int32)) &&& (3 : Int32))), .val (.long p3), .second, .val (.long p4), .second, .val (.ref b242), .val (.ref b253), .unset, .unset, .unset] [(.long p2), (.long p4)]))
            refine own_st (fun _ k => XT.lcmp X258.here hx rfl (hb hby at_107) rfl k) ?_
            show own_Go p e below s _ _ _ (T258.setTop (mkF m 108 #[.val (.long p1), .second, .val (.long p2), .second, .val (.long p3), .second, .val (.long p4), .second, .val (.int p5), .val (.int (p5 &&& (3 : Int32))), .val (.int ((XT.ushr p5 (2 : Int32)) &&& (3 : Int32))), .val (.long p3), .second, .val (.long p4), .second, .val (.ref b242), .val (.ref b253), .unset, .unset, .unset] [(.int (XT.cmpL p4 p2))]))
            by_cases hc266 : p4 = p2
            · refine own_st (fun _ k => XS.ifNo X258.here hx rfl (hb hby at_108) rfl (XT.ll_ne_f hc266) k) ?_
              show own_Go p e below s _ _ _ (T258.setTop (mkF m 111 #[.val (.long p1), .second, .val (.long p2), .second, .val (.long p3), .second, .val (.long p4), .second, .val (.int p5), .val (.int (p5 &&& (3 : Int32))), .val (.int ((XT.ushr p5 (2 : Int32)) &&& (3 : Int32))), .val (.long p3), .second, .val (.long p4), .second, .val (.ref b242), .val (.ref b253), .unset, .unset, .unset] []))
              refine own_st (fun _ k => XT.iconstV X258.here hx rfl (1 : Int32) (hb hby at_111) (by decide) k) ?_
              show own_Go p e below s _ _ _ (T258.setTop (mkF m 112 #[.val (.long p1), .second, .val (.long p2), .second, .val (.long p3), .second, .val (.long p4), .second, .val (.int p5), .val (.int (p5 &&& (3 : Int32))), .val (.int ((XT.ushr p5 (2 : Int32)) &&& (3 : Int32))), .val (.long p3), .second, .val (.long p4), .second, .val (.ref b242), .val (.ref b253), .unset, .unset, .unset] [(.int (1 : Int32))]))
              refine own_st (fun _ k => XS.goto X258.here hx rfl (pc0 := 112) (pc' := 116) rfl (hb hby at_112) (by decide) (by decide) k) ?_
              show own_Go p e below s _ _ _ (T258.setTop (mkF m 116 #[.val (.long p1), .second, .val (.long p2), .second, .val (.long p3), .second, .val (.long p4), .second, .val (.int p5), .val (.int (p5 &&& (3 : Int32))), .val (.int ((XT.ushr p5 (2 : Int32)) &&& (3 : Int32))), .val (.long p3), .second, .val (.long p4), .second, .val (.ref b242), .val (.ref b253), .unset, .unset, .unset] [(.int (1 : Int32))]))
              refine own_st (fun _ k => XS.istore X258.here hx rfl (hb hby at_116) rfl (l' := #[.val (.long p1), .second, .val (.long p2), .second, .val (.long p3), .second, .val (.long p4), .second, .val (.int p5), .val (.int (p5 &&& (3 : Int32))), .val (.int ((XT.ushr p5 (2 : Int32)) &&& (3 : Int32))), .val (.long p3), .second, .val (.long p4), .second, .val (.ref b242), .val (.ref b253), .val (.int (1 : Int32)), .unset, .unset]) rfl k) ?_
              show own_Go p e below s _ _ _ (T258.setTop (mkF m 118 #[.val (.long p1), .second, .val (.long p2), .second, .val (.long p3), .second, .val (.long p4), .second, .val (.int p5), .val (.int (p5 &&& (3 : Int32))), .val (.int ((XT.ushr p5 (2 : Int32)) &&& (3 : Int32))), .val (.long p3), .second, .val (.long p4), .second, .val (.ref b242), .val (.ref b253), .val (.int (1 : Int32)), .unset, .unset] []))
              refine own_st (fun _ k => XS.aload X258.here hx rfl (hb hby at_118) rfl rfl k) ?_
              show own_Go p e below s _ _ _ (T258.setTop (mkF m 120 #[.val (.long p1), .second, .val (.long p2), .second, .val (.long p3), .second, .val (.long p4), .second, .val (.int p5), .val (.int (p5 &&& (3 : Int32))), .val (.int ((XT.ushr p5 (2 : Int32)) &&& (3 : Int32))), .val (.long p3), .second, .val (.long p4), .second, .val (.ref b242), .val (.ref b253), .val (.int (1 : Int32)), .unset, .unset] [(.ref b242)]))
              refine own_st (fun _ k => XS.aload X258.here hx rfl (hb hby at_120) rfl rfl k) ?_
              show own_Go p e below s _ _ _ (T258.setTop (mkF m 122 #[.val (.long p1), .second, .val (.long p2), .second, .val (.long p3), .second, .val (.long p4), .second, .val (.int p5), .val (.int (p5 &&& (3 : Int32))), .val (.int ((XT.ushr p5 (2 : Int32)) &&& (3 : Int32))), .val (.long p3), .second, .val (.long p4), .second, .val (.ref b242), .val (.ref b253), .val (.int (1 : Int32)), .unset, .unset] [(.ref b253), (.ref b242)]))
              have F268 : Exa Z T258.heap b242 "com/example/epoch/epoch/protocol/record/TimestampedOffset" := ((q248.ext E253).keep K258)
              have ne269 : b242 ≠ b253 := Nat.ne_of_lt (Nat.lt_of_lt_of_le (Nat.lt_of_lt_of_le A242.lt K247.1) (Nat.le_of_eq g253.symm))
              have F270 : Fld Z T258.heap b242 "com/example/epoch/epoch/protocol/record/TimestampedOffset" "timestamp" "J" (.long p1) := ((q249.ext E253).keep K258 (ninS ne269 nin0))
              have F271 : Fld Z T258.heap b242 "com/example/epoch/epoch/protocol/record/TimestampedOffset" "offset" "J" (.long p2) := ((q250.ext E253).keep K258 (ninS ne269 nin0))
              obtain ⟨cq267, kq267, q267a, q267b, q267c⟩ := isOf hZ rfl F268
              obtain ⟨_, _, ⟨T267, L267, k267, n267⟩, -, X267, ⟨Lc267, hQ267, l267, y267, z267⟩, st267⟩ := X258.virtualBack hx (y := (⟨"com/example/epoch/epoch/protocol/record/TimestampedOffset", "equals", "(Ljava/lang/Object;)Z"⟩ : MethodName)) (z := (⟨"com/example/epoch/epoch/protocol/record/TimestampedOffset", "equals", "(Ljava/lang/Object;)Z"⟩ : MethodName)) hown (mvT hZ (hw _ (List.mem_of_getElem? (i := 13) rfl))) (mvT hZ (hw _ (List.mem_of_getElem? (i := 14) rfl))) (notFace_of_selects (args := #[]) (mvT hZ (hw _ (List.mem_of_getElem? (i := 16) rfl)))) (mvT hZ (hw _ (List.mem_of_getElem? (i := 16) rfl))) (mvT hZ (hw _ (List.mem_of_getElem? (i := 15) rfl))) (by decide) (backOf (W := 0) (own_rm_eqA l Z a0 hw [] b242 b253 p1 p2 p3 p4 T258.heap n0 Zs263 q259 F270 F271 q260 q261) hZ (hw _ (List.mem_of_getElem? (i := 17) rfl)) (hw _ (List.mem_of_getElem? (i := 2) rfl)) (by decide) (by decide)) q267a q267c (g := (mkF m 122 #[.val (.long p1), .second, .val (.long p2), .second, .val (.long p3), .second, .val (.long p4), .second, .val (.int p5), .val (.int (p5 &&& (3 : Int32))), .val (.int ((XT.ushr p5 (2 : Int32)) &&& (3 : Int32))), .val (.long p3), .second, .val (.long p4), .second, .val (.ref b242), .val (.ref b253), .val (.int (1 : Int32)), .unset, .unset] [(.ref b253), (.ref b242)])) rfl (by rw [hml]; rfl) (Steps.refl _) (argsL := [(.ref b253)]) (rest := []) (lenOf own_pd3 rfl) rfl (by show 2 * 0 + _ ≤ _; exact Nat.le_of_eq rfl) (hb hby at_122) (fun _ _ => ⟨rfl, rfl, (by decide : 2 + 0 ≤ _), (by decide : 4 + 0 ≤ _)⟩)
              dsimp only [Pt.U, Pt.locs, Pt.cells, Pt.slots] at X267 l267 y267 z267 st267 hQ267
              subst l267 y267 z267
              obtain ⟨N267q, rfl, eh267⟩ := hQ267
              have N272 := Fr.app N262 N267q
              refine own_tr st267 ?_
              show own_Go p e below s _ _ _ (T267.setTop (mkF m 125 #[.val (.long p1), .second, .val (.long p2), .second, .val (.long p3), .second, .val (.long p4), .second, .val (.int p5), .val (.int (p5 &&& (3 : Int32))), .val (.int ((XT.ushr p5 (2 : Int32)) &&& (3 : Int32))), .val (.long p3), .second, .val (.long p4), .second, .val (.ref b242), .val (.ref b253), .val (.int (1 : Int32)), .unset, .unset] [(.int (if p1 = p3 then (if p2 = p4 then (1 : Int32) else 0) else 0))]))
              refine own_st (fun _ k => XS.istore X267.here hx rfl (hb hby at_125) rfl (l' := #[.val (.long p1), .second, .val (.long p2), .second, .val (.long p3), .second, .val (.long p4), .second, .val (.int p5), .val (.int (p5 &&& (3 : Int32))), .val (.int ((XT.ushr p5 (2 : Int32)) &&& (3 : Int32))), .val (.long p3), .second, .val (.long p4), .second, .val (.ref b242), .val (.ref b253), .val (.int (1 : Int32)), .val (.int (if p1 = p3 then (if p2 = p4 then (1 : Int32) else 0) else 0)), .unset]) rfl k) ?_
              show own_Go p e below s _ _ _ (T267.setTop (mkF m 127 #[.val (.long p1), .second, .val (.long p2), .second, .val (.long p3), .second, .val (.long p4), .second, .val (.int p5), .val (.int (p5 &&& (3 : Int32))), .val (.int ((XT.ushr p5 (2 : Int32)) &&& (3 : Int32))), .val (.long p3), .second, .val (.long p4), .second, .val (.ref b242), .val (.ref b253), .val (.int (1 : Int32)), .val (.int (if p1 = p3 then (if p2 = p4 then (1 : Int32) else 0) else 0)), .unset] []))
              refine own_st (fun _ k => XS.aload X267.here hx rfl (hb hby at_127) rfl rfl k) ?_
              show own_Go p e below s _ _ _ (T267.setTop (mkF m 129 #[.val (.long p1), .second, .val (.long p2), .second, .val (.long p3), .second, .val (.long p4), .second, .val (.int p5), .val (.int (p5 &&& (3 : Int32))), .val (.int ((XT.ushr p5 (2 : Int32)) &&& (3 : Int32))), .val (.long p3), .second, .val (.long p4), .second, .val (.ref b242), .val (.ref b253), .val (.int (1 : Int32)), .val (.int (if p1 = p3 then (if p2 = p4 then (1 : Int32) else 0) else 0)), .unset] [(.ref b253)]))
              refine own_st (fun _ k => XS.aload X267.here hx rfl (hb hby at_129) rfl rfl k) ?_
              show own_Go p e below s _ _ _ (T267.setTop (mkF m 131 #[.val (.long p1), .second, .val (.long p2), .second, .val (.long p3), .second, .val (.long p4), .second, .val (.int p5), .val (.int (p5 &&& (3 : Int32))), .val (.int ((XT.ushr p5 (2 : Int32)) &&& (3 : Int32))), .val (.long p3), .second, .val (.long p4), .second, .val (.ref b242), .val (.ref b253), .val (.int (1 : Int32)), .val (.int (if p1 = p3 then (if p2 = p4 then (1 : Int32) else 0) else 0)), .unset] [(.ref b242), (.ref b253)]))
              obtain ⟨cq273, kq273, q273a, q273b, q273c⟩ := isOf hZ eh267 q259
              obtain ⟨_, _, ⟨T273, L273, k273, n273⟩, -, X273, ⟨Lc273, hQ273, l273, y273, z273⟩, st273⟩ := X267.virtualBack hx (y := (⟨"com/example/epoch/epoch/protocol/record/TimestampedOffset", "equals", "(Ljava/lang/Object;)Z"⟩ : MethodName)) (z := (⟨"com/example/epoch/epoch/protocol/record/TimestampedOffset", "equals", "(Ljava/lang/Object;)Z"⟩ : MethodName)) hown (mvT hZ (hw _ (List.mem_of_getElem? (i := 13) rfl))) (mvT hZ (hw _ (List.mem_of_getElem? (i := 14) rfl))) (notFace_of_selects (args := #[]) (mvT hZ (hw _ (List.mem_of_getElem? (i := 16) rfl)))) (mvT hZ (hw _ (List.mem_of_getElem? (i := 16) rfl))) (mvT hZ (hw _ (List.mem_of_getElem? (i := 15) rfl))) (by decide) (backOf (W := 0) (own_rm_eqA l Z a0 hw [] b253 b242 p3 p4 p1 p2 T258.heap n0 Zs263 F268 q260 q261 F270 F271) hZ (hw _ (List.mem_of_getElem? (i := 17) rfl)) (hw _ (List.mem_of_getElem? (i := 2) rfl)) (by decide) (by decide)) q273a q273c (g := (mkF m 131 #[.val (.long p1), .second, .val (.long p2), .second, .val (.long p3), .second, .val (.long p4), .second, .val (.int p5), .val (.int (p5 &&& (3 : Int32))), .val (.int ((XT.ushr p5 (2 : Int32)) &&& (3 : Int32))), .val (.long p3), .second, .val (.long p4), .second, .val (.ref b242), .val (.ref b253), .val (.int (1 : Int32)), .val (.int (if p1 = p3 then (if p2 = p4 then (1 : Int32) else 0) else 0)), .unset] [(.ref b242), (.ref b253)])) rfl (by rw [hml]; rfl) (Steps.refl _) (argsL := [(.ref b242)]) (rest := []) (lenOf own_pd3 rfl) rfl (by show 2 * 0 + _ ≤ _; exact Nat.le_of_eq rfl) (hb hby at_131) (fun _ _ => ⟨rfl, eh267, (by decide : 2 + 0 ≤ _), (by decide : 4 + 0 ≤ _)⟩)
              dsimp only [Pt.U, Pt.locs, Pt.cells, Pt.slots] at X273 l273 y273 z273 st273 hQ273
              subst l273 y273 z273
              obtain ⟨N273q, rfl, eh273⟩ := hQ273
              have N274 := Fr.app N272 N273q
              refine own_tr st273 ?_
              show own_Go p e below s _ _ _ (T273.setTop (mkF m 134 #[.val (.long p1), .second, .val (.long p2), .second, .val (.long p3), .second, .val (.long p4), .second, .val (.int p5), .val (.int (p5 &&& (3 : Int32))), .val (.int ((XT.ushr p5 (2 : Int32)) &&& (3 : Int32))), .val (.long p3), .second, .val (.long p4), .second, .val (.ref b242), .val (.ref b253), .val (.int (1 : Int32)), .val (.int (if p1 = p3 then (if p2 = p4 then (1 : Int32) else 0) else 0)), .unset] [(.int (if p3 = p1 then (if p4 = p2 then (1 : Int32) else 0) else 0))]))
              refine own_st (fun _ k => XS.istore X273.here hx rfl (hb hby at_134) rfl (l' := #[.val (.long p1), .second, .val (.long p2), .second, .val (.long p3), .second, .val (.long p4), .second, .val (.int p5), .val (.int (p5 &&& (3 : Int32))), .val (.int ((XT.ushr p5 (2 : Int32)) &&& (3 : Int32))), .val (.long p3), .second, .val (.long p4), .second, .val (.ref b242), .val (.ref b253), .val (.int (1 : Int32)), .val (.int (if p1 = p3 then (if p2 = p4 then (1 : Int32) else 0) else 0)), .val (.int (if p3 = p1 then (if p4 = p2 then (1 : Int32) else 0) else 0))]) rfl k) ?_
              show own_Go p e below s _ _ _ (T273.setTop (mkF m 136 #[.val (.long p1), .second, .val (.long p2), .second, .val (.long p3), .second, .val (.long p4), .second, .val (.int p5), .val (.int (p5 &&& (3 : Int32))), .val (.int ((XT.ushr p5 (2 : Int32)) &&& (3 : Int32))), .val (.long p3), .second, .val (.long p4), .second, .val (.ref b242), .val (.ref b253), .val (.int (1 : Int32)), .val (.int (if p1 = p3 then (if p2 = p4 then (1 : Int32) else 0) else 0)), .val (.int (if p3 = p1 then (if p4 = p2 then (1 : Int32) else 0) else 0))] []))
              refine own_st (fun _ k => XS.iload X273.here hx rfl (hb hby at_136) rfl k) ?_
              show own_Go p e below s _ _ _ (T273.setTop (mkF m 138 #[.val (.long p1), .second, .val (.long p2), .second, .val (.long p3), .second, .val (.long p4), .second, .val (.int p5), .val (.int (p5 &&& (3 : Int32))), .val (.int ((XT.ushr p5 (2 : Int32)) &&& (3 : Int32))), .val (.long p3), .second, .val (.long p4), .second, .val (.ref b242), .val (.ref b253), .val (.int (1 : Int32)), .val (.int (if p1 = p3 then (if p2 = p4 then (1 : Int32) else 0) else 0)), .val (.int (if p3 = p1 then (if p4 = p2 then (1 : Int32) else 0) else 0))] [(.int (if p1 = p3 then (if p2 = p4 then (1 : Int32) else 0) else 0))]))
              refine own_st (fun _ k => XS.iload X273.here hx rfl (hb hby at_138) rfl k) ?_
              show own_Go p e below s _ _ _ (T273.setTop (mkF m 140 #[.val (.long p1), .second, .val (.long p2), .second, .val (.long p3), .second, .val (.long p4), .second, .val (.int p5), .val (.int (p5 &&& (3 : Int32))), .val (.int ((XT.ushr p5 (2 : Int32)) &&& (3 : Int32))), .val (.long p3), .second, .val (.long p4), .second, .val (.ref b242), .val (.ref b253), .val (.int (1 : Int32)), .val (.int (if p1 = p3 then (if p2 = p4 then (1 : Int32) else 0) else 0)), .val (.int (if p3 = p1 then (if p4 = p2 then (1 : Int32) else 0) else 0))] [(.int (1 : Int32)), (.int (if p1 = p3 then (if p2 = p4 then (1 : Int32) else 0) else 0))]))
              refine own_st (fun _ k => XS.icmpNo X273.here hx rfl (hb hby at_140) rfl (XT.ii_ne_f (by simp [hc265, (eq_comm : p1 = p3 ↔ p3 = p1), hc266, (eq_comm : p2 = p4 ↔ p4 = p2)])) k) ?_
              show own_Go p e below s _ _ _ (T273.setTop (mkF m 143 #[.val (.long p1), .second, .val (.long p2), .second, .val (.long p3), .second, .val (.long p4), .second, .val (.int p5), .val (.int (p5 &&& (3 : Int32))), .val (.int ((XT.ushr p5 (2 : Int32)) &&& (3 : Int32))), .val (.long p3), .second, .val (.long p4), .second, .val (.ref b242), .val (.ref b253), .val (.int (1 : Int32)), .val (.int (if p1 = p3 then (if p2 = p4 then (1 : Int32) else 0) else 0)), .val (.int (if p3 = p1 then (if p4 = p2 then (1 : Int32) else 0) else 0))] []))
              refine own_st (fun _ k => XS.iload X273.here hx rfl (hb hby at_143) rfl k) ?_
              show own_Go p e below s _ _ _ (T273.setTop (mkF m 145 #[.val (.long p1), .second, .val (.long p2), .second, .val (.long p3), .second, .val (.long p4), .second, .val (.int p5), .val (.int (p5 &&& (3 : Int32))), .val (.int ((XT.ushr p5 (2 : Int32)) &&& (3 : Int32))), .val (.long p3), .second, .val (.long p4), .second, .val (.ref b242), .val (.ref b253), .val (.int (1 : Int32)), .val (.int (if p1 = p3 then (if p2 = p4 then (1 : Int32) else 0) else 0)), .val (.int (if p3 = p1 then (if p4 = p2 then (1 : Int32) else 0) else 0))] [(.int (if p3 = p1 then (if p4 = p2 then (1 : Int32) else 0) else 0))]))
              refine own_st (fun _ k => XS.iload X273.here hx rfl (hb hby at_145) rfl k) ?_
              show own_Go p e below s _ _ _ (T273.setTop (mkF m 147 #[.val (.long p1), .second, .val (.long p2), .second, .val (.long p3), .second, .val (.long p4), .second, .val (.int p5), .val (.int (p5 &&& (3 : Int32))), .val (.int ((XT.ushr p5 (2 : Int32)) &&& (3 : Int32))), .val (.long p3), .second, .val (.long p4), .second, .val (.ref b242), .val (.ref b253), .val (.int (1 : Int32)), .val (.int (if p1 = p3 then (if p2 = p4 then (1 : Int32) else 0) else 0)), .val (.int (if p3 = p1 then (if p4 = p2 then (1 : Int32) else 0) else 0))] [(.int (1 : Int32)), (.int (if p3 = p1 then (if p4 = p2 then (1 : Int32) else 0) else 0))]))
              refine own_st (fun _ k => XS.icmpNo X273.here hx rfl (hb hby at_147) rfl (XT.ii_ne_f (by simp [hc265, (eq_comm : p1 = p3 ↔ p3 = p1), hc266, (eq_comm : p2 = p4 ↔ p4 = p2)])) k) ?_
              show own_Go p e below s _ _ _ (T273.setTop (mkF m 150 #[.val (.long p1), .second, .val (.long p2), .second, .val (.long p3), .second, .val (.long p4), .second, .val (.int p5), .val (.int (p5 &&& (3 : Int32))), .val (.int ((XT.ushr p5 (2 : Int32)) &&& (3 : Int32))), .val (.long p3), .second, .val (.long p4), .second, .val (.ref b242), .val (.ref b253), .val (.int (1 : Int32)), .val (.int (if p1 = p3 then (if p2 = p4 then (1 : Int32) else 0) else 0)), .val (.int (if p3 = p1 then (if p4 = p2 then (1 : Int32) else 0) else 0))] []))
              refine own_st (fun _ k => XT.iconstV X273.here hx rfl (1 : Int32) (hb hby at_150) (by decide) k) ?_
              show own_Go p e below s _ _ _ (T273.setTop (mkF m 151 #[.val (.long p1), .second, .val (.long p2), .second, .val (.long p3), .second, .val (.long p4), .second, .val (.int p5), .val (.int (p5 &&& (3 : Int32))), .val (.int ((XT.ushr p5 (2 : Int32)) &&& (3 : Int32))), .val (.long p3), .second, .val (.long p4), .second, .val (.ref b242), .val (.ref b253), .val (.int (1 : Int32)), .val (.int (if p1 = p3 then (if p2 = p4 then (1 : Int32) else 0) else 0)), .val (.int (if p3 = p1 then (if p4 = p2 then (1 : Int32) else 0) else 0))] [(.int (1 : Int32))]))
              refine own_st (fun _ k => XS.goto X273.here hx rfl (pc0 := 151) (pc' := 155) rfl (hb hby at_151) (by decide) (by decide) k) ?_
              show own_Go p e below s _ _ _ (T273.setTop (mkF m 155 #[.val (.long p1), .second, .val (.long p2), .second, .val (.long p3), .second, .val (.long p4), .second, .val (.int p5), .val (.int (p5 &&& (3 : Int32))), .val (.int ((XT.ushr p5 (2 : Int32)) &&& (3 : Int32))), .val (.long p3), .second, .val (.long p4), .second, .val (.ref b242), .val (.ref b253), .val (.int (1 : Int32)), .val (.int (if p1 = p3 then (if p2 = p4 then (1 : Int32) else 0) else 0)), .val (.int (if p3 = p1 then (if p4 = p2 then (1 : Int32) else 0) else 0))] [(.int (1 : Int32))]))
              refine own_retN X273 hx hlk Bd.returns (t := .boolean) (z' := (1 : Int32)) (by simp) (by decide) (hb hby at_155) (by decide) (by decide) ?_
              rw [eh273]
              exact ⟨N274, rfl⟩
            · refine own_st (fun _ k => XS.ifYes X258.here hx rfl (pc0 := 108) (pc' := 115) rfl (hb hby at_108) rfl (XT.ll_ne_t hc266) (by decide) (by decide) k) ?_
              show own_Go p e below s _ _ _ (T258.setTop (mkF m 115 #[.val (.long p1), .second, .val (.long p2), .second, .val (.long p3), .second, .val (.long p4), .second, .val (.int p5), .val (.int (p5 &&& (3 : Int32))), .val (.int ((XT.ushr p5 (2 : Int32)) &&& (3 : Int32))), .val (.long p3), .second, .val (.long p4), .second, .val (.ref b242), .val (.ref b253), .unset, .unset, .unset] []))
              refine own_st (fun _ k => XT.iconstV X258.here hx rfl (0 : Int32) (hb hby at_115) (by decide) k) ?_
              show own_Go p e below s _ _ _ (T258.setTop (mkF m 116 #[.val (.long p1), .second, .val (.long p2), .second, .val (.long p3), .second, .val (.long p4), .second, .val (.int p5), .val (.int (p5 &&& (3 : Int32))), .val (.int ((XT.ushr p5 (2 : Int32)) &&& (3 : Int32))), .val (.long p3), .second, .val (.long p4), .second, .val (.ref b242), .val (.ref b253), .unset, .unset, .unset] [(.int (0 : Int32))]))
              refine own_st (fun _ k => XS.istore X258.here hx rfl (hb hby at_116) rfl (l' := #[.val (.long p1), .second, .val (.long p2), .second, .val (.long p3), .second, .val (.long p4), .second, .val (.int p5), .val (.int (p5 &&& (3 : Int32))), .val (.int ((XT.ushr p5 (2 : Int32)) &&& (3 : Int32))), .val (.long p3), .second, .val (.long p4), .second, .val (.ref b242), .val (.ref b253), .val (.int (0 : Int32)), .unset, .unset]) rfl k) ?_
              show own_Go p e below s _ _ _ (T258.setTop (mkF m 118 #[.val (.long p1), .second, .val (.long p2), .second, .val (.long p3), .second, .val (.long p4), .second, .val (.int p5), .val (.int (p5 &&& (3 : Int32))), .val (.int ((XT.ushr p5 (2 : Int32)) &&& (3 : Int32))), .val (.long p3), .second, .val (.long p4), .second, .val (.ref b242), .val (.ref b253), .val (.int (0 : Int32)), .unset, .unset] []))
              refine own_st (fun _ k => XS.aload X258.here hx rfl (hb hby at_118) rfl rfl k) ?_
              show own_Go p e below s _ _ _ (T258.setTop (mkF m 120 #[.val (.long p1), .second, .val (.long p2), .second, .val (.long p3), .second, .val (.long p4), .second, .val (.int p5), .val (.int (p5 &&& (3 : Int32))), .val (.int ((XT.ushr p5 (2 : Int32)) &&& (3 : Int32))), .val (.long p3), .second, .val (.long p4), .second, .val (.ref b242), .val (.ref b253), .val (.int (0 : Int32)), .unset, .unset] [(.ref b242)]))
              refine own_st (fun _ k => XS.aload X258.here hx rfl (hb hby at_120) rfl rfl k) ?_
              show own_Go p e below s _ _ _ (T258.setTop (mkF m 122 #[.val (.long p1), .second, .val (.long p2), .second, .val (.long p3), .second, .val (.long p4), .second, .val (.int p5), .val (.int (p5 &&& (3 : Int32))), .val (.int ((XT.ushr p5 (2 : Int32)) &&& (3 : Int32))), .val (.long p3), .second, .val (.long p4), .second, .val (.ref b242), .val (.ref b253), .val (.int (0 : Int32)), .unset, .unset] [(.ref b253), (.ref b242)]))
              have F276 : Exa Z T258.heap b242 "com/example/epoch/epoch/protocol/record/TimestampedOffset" := ((q248.ext E253).keep K258)
              have ne277 : b242 ≠ b253 := Nat.ne_of_lt (Nat.lt_of_lt_of_le (Nat.lt_of_lt_of_le A242.lt K247.1) (Nat.le_of_eq g253.symm))
              have F278 : Fld Z T258.heap b242 "com/example/epoch/epoch/protocol/record/TimestampedOffset" "timestamp" "J" (.long p1) := ((q249.ext E253).keep K258 (ninS ne277 nin0))
              have F279 : Fld Z T258.heap b242 "com/example/epoch/epoch/protocol/record/TimestampedOffset" "offset" "J" (.long p2) := ((q250.ext E253).keep K258 (ninS ne277 nin0))
              obtain ⟨cq275, kq275, q275a, q275b, q275c⟩ := isOf hZ rfl F276
              obtain ⟨_, _, ⟨T275, L275, k275, n275⟩, -, X275, ⟨Lc275, hQ275, l275, y275, z275⟩, st275⟩ := X258.virtualBack hx (y := (⟨"com/example/epoch/epoch/protocol/record/TimestampedOffset", "equals", "(Ljava/lang/Object;)Z"⟩ : MethodName)) (z := (⟨"com/example/epoch/epoch/protocol/record/TimestampedOffset", "equals", "(Ljava/lang/Object;)Z"⟩ : MethodName)) hown (mvT hZ (hw _ (List.mem_of_getElem? (i := 13) rfl))) (mvT hZ (hw _ (List.mem_of_getElem? (i := 14) rfl))) (notFace_of_selects (args := #[]) (mvT hZ (hw _ (List.mem_of_getElem? (i := 16) rfl)))) (mvT hZ (hw _ (List.mem_of_getElem? (i := 16) rfl))) (mvT hZ (hw _ (List.mem_of_getElem? (i := 15) rfl))) (by decide) (backOf (W := 0) (own_rm_eqA l Z a0 hw [] b242 b253 p1 p2 p3 p4 T258.heap n0 Zs263 q259 F278 F279 q260 q261) hZ (hw _ (List.mem_of_getElem? (i := 17) rfl)) (hw _ (List.mem_of_getElem? (i := 2) rfl)) (by decide) (by decide)) q275a q275c (g := (mkF m 122 #[.val (.long p1), .second, .val (.long p2), .second, .val (.long p3), .second, .val (.long p4), .second, .val (.int p5), .val (.int (p5 &&& (3 : Int32))), .val (.int ((XT.ushr p5 (2 : Int32)) &&& (3 : Int32))), .val (.long p3), .second, .val (.long p4), .second, .val (.ref b242), .val (.ref b253), .val (.int (0 : Int32)), .unset, .unset] [(.ref b253), (.ref b242)])) rfl (by rw [hml]; rfl) (Steps.refl _) (argsL := [(.ref b253)]) (rest := []) (lenOf own_pd3 rfl) rfl (by show 2 * 0 + _ ≤ _; exact Nat.le_of_eq rfl) (hb hby at_122) (fun _ _ => ⟨rfl, rfl, (by decide : 2 + 0 ≤ _), (by decide : 4 + 0 ≤ _)⟩)
              dsimp only [Pt.U, Pt.locs, Pt.cells, Pt.slots] at X275 l275 y275 z275 st275 hQ275
              subst l275 y275 z275
              obtain ⟨N275q, rfl, eh275⟩ := hQ275
              have N280 := Fr.app N262 N275q
              refine own_tr st275 ?_
              show own_Go p e below s _ _ _ (T275.setTop (mkF m 125 #[.val (.long p1), .second, .val (.long p2), .second, .val (.long p3), .second, .val (.long p4), .second, .val (.int p5), .val (.int (p5 &&& (3 : Int32))), .val (.int ((XT.ushr p5 (2 : Int32)) &&& (3 : Int32))), .val (.long p3), .second, .val (.long p4), .second, .val (.ref b242), .val (.ref b253), .val (.int (0 : Int32)), .unset, .unset] [(.int (if p1 = p3 then (if p2 = p4 then (1 : Int32) else 0) else 0))]))
              refine own_st (fun _ k => XS.istore X275.here hx rfl (hb hby at_125) rfl (l' := #[.val (.long p1), .second, .val (.long p2), .second, .val (.long p3), .second, .val (.long p4), .second, .val (.int p5), .val (.int (p5 &&& (3 : Int32))), .val (.int ((XT.ushr p5 (2 : Int32)) &&& (3 : Int32))), .val (.long p3), .second, .val (.long p4), .second, .val (.ref b242), .val (.ref b253), .val (.int (0 : Int32)), .val (.int (if p1 = p3 then (if p2 = p4 then (1 : Int32) else 0) else 0)), .unset]) rfl k) ?_
              show own_Go p e below s _ _ _ (T275.setTop (mkF m 127 #[.val (.long p1), .second, .val (.long p2), .second, .val (.long p3), .second, .val (.long p4), .second, .val (.int p5), .val (.int (p5 &&& (3 : Int32))), .val (.int ((XT.ushr p5 (2 : Int32)) &&& (3 : Int32))), .val (.long p3), .second, .val (.long p4), .second, .val (.ref b242), .val (.ref b253), .val (.int (0 : Int32)), .val (.int (if p1 = p3 then (if p2 = p4 then (1 : Int32) else 0) else 0)), .unset] []))
              refine own_st (fun _ k => XS.aload X275.here hx rfl (hb hby at_127) rfl rfl k) ?_
              show own_Go p e below s _ _ _ (T275.setTop (mkF m 129 #[.val (.long p1), .second, .val (.long p2), .second, .val (.long p3), .second, .val (.long p4), .second, .val (.int p5), .val (.int (p5 &&& (3 : Int32))), .val (.int ((XT.ushr p5 (2 : Int32)) &&& (3 : Int32))), .val (.long p3), .second, .val (.long p4), .second, .val (.ref b242), .val (.ref b253), .val (.int (0 : Int32)), .val (.int (if p1 = p3 then (if p2 = p4 then (1 : Int32) else 0) else 0)), .unset] [(.ref b253)]))
              refine own_st (fun _ k => XS.aload X275.here hx rfl (hb hby at_129) rfl rfl k) ?_
              show own_Go p e below s _ _ _ (T275.setTop (mkF m 131 #[.val (.long p1), .second, .val (.long p2), .second, .val (.long p3), .second, .val (.long p4), .second, .val (.int p5), .val (.int (p5 &&& (3 : Int32))), .val (.int ((XT.ushr p5 (2 : Int32)) &&& (3 : Int32))), .val (.long p3), .second, .val (.long p4), .second, .val (.ref b242), .val (.ref b253), .val (.int (0 : Int32)), .val (.int (if p1 = p3 then (if p2 = p4 then (1 : Int32) else 0) else 0)), .unset] [(.ref b242), (.ref b253)]))
              obtain ⟨cq281, kq281, q281a, q281b, q281c⟩ := isOf hZ eh275 q259
              obtain ⟨_, _, ⟨T281, L281, k281, n281⟩, -, X281, ⟨Lc281, hQ281, l281, y281, z281⟩, st281⟩ := X275.virtualBack hx (y := (⟨"com/example/epoch/epoch/protocol/record/TimestampedOffset", "equals", "(Ljava/lang/Object;)Z"⟩ : MethodName)) (z := (⟨"com/example/epoch/epoch/protocol/record/TimestampedOffset", "equals", "(Ljava/lang/Object;)Z"⟩ : MethodName)) hown (mvT hZ (hw _ (List.mem_of_getElem? (i := 13) rfl))) (mvT hZ (hw _ (List.mem_of_getElem? (i := 14) rfl))) (notFace_of_selects (args := #[]) (mvT hZ (hw _ (List.mem_of_getElem? (i := 16) rfl)))) (mvT hZ (hw _ (List.mem_of_getElem? (i := 16) rfl))) (mvT hZ (hw _ (List.mem_of_getElem? (i := 15) rfl))) (by decide) (backOf (W := 0) (own_rm_eqA l Z a0 hw [] b253 b242 p3 p4 p1 p2 T258.heap n0 Zs263 F276 q260 q261 F278 F279) hZ (hw _ (List.mem_of_getElem? (i := 17) rfl)) (hw _ (List.mem_of_getElem? (i := 2) rfl)) (by decide) (by decide)) q281a q281c (g := (mkF m 131 #[.val (.long p1), .second, .val (.long p2), .second, .val (.long p3), .second, .val (.long p4), .second, .val (.int p5), .val (.int (p5 &&& (3 : Int32))), .val (.int ((XT.ushr p5 (2 : Int32)) &&& (3 : Int32))), .val (.long p3), .second, .val (.long p4), .second, .val (.ref b242), .val (.ref b253), .val (.int (0 : Int32)), .val (.int (if p1 = p3 then (if p2 = p4 then (1 : Int32) else 0) else 0)), .unset] [(.ref b242), (.ref b253)])) rfl (by rw [hml]; rfl) (Steps.refl _) (argsL := [(.ref b242)]) (rest := []) (lenOf own_pd3 rfl) rfl (by show 2 * 0 + _ ≤ _; exact Nat.le_of_eq rfl) (hb hby at_131) (fun _ _ => ⟨rfl, eh275, (by decide : 2 + 0 ≤ _), (by decide : 4 + 0 ≤ _)⟩)
              dsimp only [Pt.U, Pt.locs, Pt.cells, Pt.slots] at X281 l281 y281 z281 st281 hQ281
              subst l281 y281 z281
              obtain ⟨N281q, rfl, eh281⟩ := hQ281
              have N282 := Fr.app N280 N281q
              refine own_tr st281 ?_
              show own_Go p e below s _ _ _ (T281.setTop (mkF m 134 #[.val (.long p1), .second, .val (.long p2), .second, .val (.long p3), .second, .val (.long p4), .second, .val (.int p5), .val (.int (p5 &&& (3 : Int32))), .val (.int ((XT.ushr p5 (2 : Int32)) &&& (3 : Int32))), .val (.long p3), .second, .val (.long p4), .second, .val (.ref b242), .val (.ref b253), .val (.int (0 : Int32)), .val (.int (if p1 = p3 then (if p2 = p4 then (1 : Int32) else 0) else 0)), .unset] [(.int (if p3 = p1 then (if p4 = p2 then (1 : Int32) else 0) else 0))]))
              refine own_st (fun _ k => XS.istore X281.here hx rfl (hb hby at_134) rfl (l' := #[.val (.long p1), .second, .val (.long p2), .second, .val (.long p3), .second, .val (.long p4), .second, .val (.int p5), .val (.int (p5 &&& (3 : Int32))), .val (.int ((XT.ushr p5 (2 : Int32)) &&& (3 : Int32))), .val (.long p3), .second, .val (.long p4), .second, .val (.ref b242), .val (.ref b253), .val (.int (0 : Int32)), .val (.int (if p1 = p3 then (if p2 = p4 then (1 : Int32) else 0) else 0)), .val (.int (if p3 = p1 then (if p4 = p2 then (1 : Int32) else 0) else 0))]) rfl k) ?_
              show own_Go p e below s _ _ _ (T281.setTop (mkF m 136 #[.val (.long p1), .second, .val (.long p2), .second, .val (.long p3), .second, .val (.long p4), .second, .val (.int p5), .val (.int (p5 &&& (3 : Int32))), .val (.int ((XT.ushr p5 (2 : Int32)) &&& (3 : Int32))), .val (.long p3), .second, .val (.long p4), .second, .val (.ref b242), .val (.ref b253), .val (.int (0 : Int32)), .val (.int (if p1 = p3 then (if p2 = p4 then (1 : Int32) else 0) else 0)), .val (.int (if p3 = p1 then (if p4 = p2 then (1 : Int32) else 0) else 0))] []))
              refine own_st (fun _ k => XS.iload X281.here hx rfl (hb hby at_136) rfl k) ?_
              show own_Go p e below s _ _ _ (T281.setTop (mkF m 138 #[.val (.long p1), .second, .val (.long p2), .second, .val (.long p3), .second, .val (.long p4), .second, .val (.int p5), .val (.int (p5 &&& (3 : Int32))), .val (.int ((XT.ushr p5 (2 : Int32)) &&& (3 : Int32))), .val (.long p3), .second, .val (.long p4), .second, .val (.ref b242), .val (.ref b253), .val (.int (0 : Int32)), .val (.int (if p1 = p3 then (if p2 = p4 then (1 : Int32) else 0) else 0)), .val (.int (if p3 = p1 then (if p4 = p2 then (1 : Int32) else 0) else 0))] [(.int (if p1 = p3 then (if p2 = p4 then (1 : Int32) else 0) else 0))]))
              refine own_st (fun _ k => XS.iload X281.here hx rfl (hb hby at_138) rfl k) ?_
              show own_Go p e below s _ _ _ (T281.setTop (mkF m 140 #[.val (.long p1), .second, .val (.long p2), .second, .val (.long p3), .second, .val (.long p4), .second, .val (.int p5), .val (.int (p5 &&& (3 : Int32))), .val (.int ((XT.ushr p5 (2 : Int32)) &&& (3 : Int32))), .val (.long p3), .second, .val (.long p4), .second, .val (.ref b242), .val (.ref b253), .val (.int (0 : Int32)), .val (.int (if p1 = p3 then (if p2 = p4 then (1 : Int32) else 0) else 0)), .val (.int (if p3 = p1 then (if p4 = p2 then (1 : Int32) else 0) else 0))] [(.int (0 : Int32)), (.int (if p1 = p3 then (if p2 = p4 then (1 : Int32) else 0) else 0))]))
              refine own_st (fun _ k => XS.icmpNo X281.here hx rfl (hb hby at_140) rfl (XT.ii_ne_f (by simp [hc265, (eq_comm : p1 = p3 ↔ p3 = p1), hc266, (eq_comm : p2 = p4 ↔ p4 = p2)])) k) ?_
              show own_Go p e below s _ _ _ (T281.setTop (mkF m 143 #[.val (.long p1), .second, .val (.long p2), .second, .val (.long p3), .second, .val (.long p4), .second, .val (.int p5), .val (.int (p5 &&& (3 : Int32))), .val (.int ((XT.ushr p5 (2 : Int32)) &&& (3 : Int32))), .val (.long p3), .second, .val (.long p4), .second, .val (.ref b242), .val (.ref b253), .val (.int (0 : Int32)), .val (.int (if p1 = p3 then (if p2 = p4 then (1 : Int32) else 0) else 0)), .val (.int (if p3 = p1 then (if p4 = p2 then (1 : Int32) else 0) else 0))] []))
              refine own_st (fun _ k => XS.iload X281.here hx rfl (hb hby at_143) rfl k) ?_
              show own_Go p e below s _ _ _ (T281.setTop (mkF m 145 #[.val (.long p1), .second, .val (.long p2), .second, .val (.long p3), .second, .val (.long p4), .second, .val (.int p5), .val (.int (p5 &&& (3 : Int32))), .val (.int ((XT.ushr p5 (2 : Int32)) &&& (3 : Int32))), .val (.long p3), .second, .val (.long p4), .second, .val (.ref b242), .val (.ref b253), .val (.int (0 : Int32)), .val (.int (if p1 = p3 then (if p2 = p4 then (1 : Int32) else 0) else 0)), .val (.int (if p3 = p1 then (if p4 = p2 then (1 : Int32) else 0) else 0))] [(.int (if p3 = p1 then (if p4 = p2 then (1 : Int32) else 0) else 0))]))
              refine own_st (fun _ k => XS.iload X281.here hx rfl (hb hby at_145) rfl k) ?_
              show own_Go p e below s _ _ _ (T281.setTop (mkF m 147 #[.val (.long p1), .second, .val (.long p2), .second, .val (.long p3), .second, .val (.long p4), .second, .val (.int p5), .val (.int (p5 &&& (3 : Int32))), .val (.int ((XT.ushr p5 (2 : Int32)) &&& (3 : Int32))), .val (.long p3), .second, .val (.long p4), .second, .val (.ref b242), .val (.ref b253), .val (.int (0 : Int32)), .val (.int (if p1 = p3 then (if p2 = p4 then (1 : Int32) else 0) else 0)), .val (.int (if p3 = p1 then (if p4 = p2 then (1 : Int32) else 0) else 0))] [(.int (0 : Int32)), (.int (if p3 = p1 then (if p4 = p2 then (1 : Int32) else 0) else 0))]))
              refine own_st (fun _ k => XS.icmpNo X281.here hx rfl (hb hby at_147) rfl (XT.ii_ne_f (by simp [hc265, (eq_comm : p1 = p3 ↔ p3 = p1), hc266, (eq_comm : p2 = p4 ↔ p4 = p2)])) k) ?_
              show own_Go p e below s _ _ _ (T281.setTop (mkF m 150 #[.val (.long p1), .second, .val (.long p2), .second, .val (.long p3), .second, .val (.long p4), .second, .val (.int p5), .val (.int (p5 &&& (3 : Int32))), .val (.int ((XT.ushr p5 (2 : Int32)) &&& (3 : Int32))), .val (.long p3), .second, .val (.long p4), .second, .val (.ref b242), .val (.ref b253), .val (.int (0 : Int32)), .val (.int (if p1 = p3 then (if p2 = p4 then (1 : Int32) else 0) else 0)), .val (.int (if p3 = p1 then (if p4 = p2 then (1 : Int32) else 0) else 0))] []))
              refine own_st (fun _ k => XT.iconstV X281.here hx rfl (1 : Int32) (hb hby at_150) (by decide) k) ?_
              show own_Go p e below s _ _ _ (T281.setTop (mkF m 151 #[.val (.long p1), .second, .val (.long p2), .second, .val (.long p3), .second, .val (.long p4), .second, .val (.int p5), .val (.int (p5 &&& (3 : Int32))), .val (.int ((XT.ushr p5 (2 : Int32)) &&& (3 : Int32))), .val (.long p3), .second, .val (.long p4), .second, .val (.ref b242), .val (.ref b253), .val (.int (0 : Int32)), .val (.int (if p1 = p3 then (if p2 = p4 then (1 : Int32) else 0) else 0)), .val (.int (if p3 = p1 then (if p4 = p2 then (1 : Int32) else 0) else 0))] [(.int (1 : Int32))]))
              refine own_st (fun _ k => XS.goto X281.here hx rfl (pc0 := 151) (pc' := 155) rfl (hb hby at_151) (by decide) (by decide) k) ?_
              show own_Go p e below s _ _ _ (T281.setTop (mkF m 155 #[.val (.long p1), .second, .val (.long p2), .second, .val (.long p3), .second, .val (.long p4), .second, .val (.int p5), .val (.int (p5 &&& (3 : Int32))), .val (.int ((XT.ushr p5 (2 : Int32)) &&& (3 : Int32))), .val (.long p3), .second, .val (.long p4), .second, .val (.ref b242), .val (.ref b253), .val (.int (0 : Int32)), .val (.int (if p1 = p3 then (if p2 = p4 then (1 : Int32) else 0) else 0)), .val (.int (if p3 = p1 then (if p4 = p2 then (1 : Int32) else 0) else 0))] [(.int (1 : Int32))]))
              refine own_retN X281 hx hlk Bd.returns (t := .boolean) (z' := (1 : Int32)) (by simp) (by decide) (hb hby at_155) (by decide) (by decide) ?_
              rw [eh281]
              exact ⟨N282, rfl⟩
          · refine own_st (fun _ k => XS.ifYes X258.here hx rfl (pc0 := 101) (pc' := 115) rfl (hb hby at_101) rfl (XT.ll_ne_t hc265) (by decide) (by decide) k) ?_
            show own_Go p e below s _ _ _ (T258.setTop (mkF m 115 #[.val (.long p1), .second, .val (.long p2), .second, .val (.long p3), .second, .val (.long p4), .second, .val (.int p5), .val (.int (p5 &&& (3 : Int32))), .val (.int ((XT.ushr p5 (2 : Int32)) &&& (3 : Int32))), .val (.long p3), .second, .val (.long p4), .second, .val (.ref b242), .val (.ref b253), .unset, .unset, .unset] []))
            refine own_st (fun _ k => XT.iconstV X258.here hx rfl (0 : Int32) (hb hby at_115) (by decide) k) ?_
            show own_Go p e below s _ _ _ (T258.setTop (mkF m 116 #[.val (.long p1), .second, .val (.long p2), .second, .val (.long p3), .second, .val (.long p4), .second, .val (.int p5), .val (.int (p5 &&& (3 : Int32))), .val (.int ((XT.ushr p5 (2 : Int32)) &&& (3 : Int32))), .val (.long p3), .second, .val (.long p4), .second, .val (.ref b242), .val (.ref b253), .unset, .unset, .unset] [(.int (0 : Int32))]))
            refine own_st (fun _ k => XS.istore X258.here hx rfl (hb hby at_116) rfl (l' := #[.val (.long p1), .second, .val (.long p2), .second, .val (.long p3), .second, .val (.long p4), .second, .val (.int p5), .val (.int (p5 &&& (3 : Int32))), .val (.int ((XT.ushr p5 (2 : Int32)) &&& (3 : Int32))), .val (.long p3), .second, .val (.long p4), .second, .val (.ref b242), .val (.ref b253), .val (.int (0 : Int32)), .unset, .unset]) rfl k) ?_
            show own_Go p e below s _ _ _ (T258.setTop (mkF m 118 #[.val (.long p1), .second, .val (.long p2), .second, .val (.long p3), .second, .val (.long p4), .second, .val (.int p5), .val (.int (p5 &&& (3 : Int32))), .val (.int ((XT.ushr p5 (2 : Int32)) &&& (3 : Int32))), .val (.long p3), .second, .val (.long p4), .second, .val (.ref b242), .val (.ref b253), .val (.int (0 : Int32)), .unset, .unset] []))
            refine own_st (fun _ k => XS.aload X258.here hx rfl (hb hby at_118) rfl rfl k) ?_
            show own_Go p e below s _ _ _ (T258.setTop (mkF m 120 #[.val (.long p1), .second, .val (.long p2), .second, .val (.long p3), .second, .val (.long p4), .second, .val (.int p5), .val (.int (p5 &&& (3 : Int32))), .val (.int ((XT.ushr p5 (2 : Int32)) &&& (3 : Int32))), .val (.long p3), .second, .val (.long p4), .second, .val (.ref b242), .val (.ref b253), .val (.int (0 : Int32)), .unset, .unset] [(.ref b242)]))
            refine own_st (fun _ k => XS.aload X258.here hx rfl (hb hby at_120) rfl rfl k) ?_
            show own_Go p e below s _ _ _ (T258.setTop (mkF m 122 #[.val (.long p1), .second, .val (.long p2), .second, .val (.long p3), .second, .val (.long p4), .second, .val (.int p5), .val (.int (p5 &&& (3 : Int32))), .val (.int ((XT.ushr p5 (2 : Int32)) &&& (3 : Int32))), .val (.long p3), .second, .val (.long p4), .second, .val (.ref b242), .val (.ref b253), .val (.int (0 : Int32)), .unset, .unset] [(.ref b253), (.ref b242)]))
            have F284 : Exa Z T258.heap b242 "com/example/epoch/epoch/protocol/record/TimestampedOffset" := ((q248.ext E253).keep K258)
            have ne285 : b242 ≠ b253 := Nat.ne_of_lt (Nat.lt_of_lt_of_le (Nat.lt_of_lt_of_le A242.lt K247.1) (Nat.le_of_eq g253.symm))
            have F286 : Fld Z T258.heap b242 "com/example/epoch/epoch/protocol/record/TimestampedOffset" "timestamp" "J" (.long p1) := ((q249.ext E253).keep K258 (ninS ne285 nin0))
            have F287 : Fld Z T258.heap b242 "com/example/epoch/epoch/protocol/record/TimestampedOffset" "offset" "J" (.long p2) := ((q250.ext E253).keep K258 (ninS ne285 nin0))
            obtain ⟨cq283, kq283, q283a, q283b, q283c⟩ := isOf hZ rfl F284
            obtain ⟨_, _, ⟨T283, L283, k283, n283⟩, -, X283, ⟨Lc283, hQ283, l283, y283, z283⟩, st283⟩ := X258.virtualBack hx (y := (⟨"com/example/epoch/epoch/protocol/record/TimestampedOffset", "equals", "(Ljava/lang/Object;)Z"⟩ : MethodName)) (z := (⟨"com/example/epoch/epoch/protocol/record/TimestampedOffset", "equals", "(Ljava/lang/Object;)Z"⟩ : MethodName)) hown (mvT hZ (hw _ (List.mem_of_getElem? (i := 13) rfl))) (mvT hZ (hw _ (List.mem_of_getElem? (i := 14) rfl))) (notFace_of_selects (args := #[]) (mvT hZ (hw _ (List.mem_of_getElem? (i := 16) rfl)))) (mvT hZ (hw _ (List.mem_of_getElem? (i := 16) rfl))) (mvT hZ (hw _ (List.mem_of_getElem? (i := 15) rfl))) (by decide) (backOf (W := 0) (own_rm_eqA l Z a0 hw [] b242 b253 p1 p2 p3 p4 T258.heap n0 Zs263 q259 F286 F287 q260 q261) hZ (hw _ (List.mem_of_getElem? (i := 17) rfl)) (hw _ (List.mem_of_getElem? (i := 2) rfl)) (by decide) (by decide)) q283a q283c (g := (mkF m 122 #[.val (.long p1), .second, .val (.long p2), .second, .val (.long p3), .second, .val (.long p4), .second, .val (.int p5), .val (.int (p5 &&& (3 : Int32))), .val (.int ((XT.ushr p5 (2 : Int32)) &&& (3 : Int32))), .val (.long p3), .second, .val (.long p4), .second, .val (.ref b242), .val (.ref b253), .val (.int (0 : Int32)), .unset, .unset] [(.ref b253), (.ref b242)])) rfl (by rw [hml]; rfl) (Steps.refl _) (argsL := [(.ref b253)]) (rest := []) (lenOf own_pd3 rfl) rfl (by show 2 * 0 + _ ≤ _; exact Nat.le_of_eq rfl) (hb hby at_122) (fun _ _ => ⟨rfl, rfl, (by decide : 2 + 0 ≤ _), (by decide : 4 + 0 ≤ _)⟩)
            dsimp only [Pt.U, Pt.locs, Pt.cells, Pt.slots] at X283 l283 y283 z283 st283 hQ283
            subst l283 y283 z283
            obtain ⟨N283q, rfl, eh283⟩ := hQ283
            have N288 := Fr.app N262 N283q
            refine own_tr st283 ?_
            show own_Go p e below s _ _ _ (T283.setTop (mkF m 125 #[.val (.long p1), .second, .val (.long p2), .second, .val (.long p3), .second, .val (.long p4), .second, .val (.int p5), .val (.int (p5 &&& (3 : Int32))), .val (.int ((XT.ushr p5 (2 : Int32)) &&& (3 : Int32))), .val (.long p3), .second, .val (.long p4), .second, .val (.ref b242), .val (.ref b253), .val (.int (0 : Int32)), .unset, .unset] [(.int (if p1 = p3 then (if p2 = p4 then (1 : Int32) else 0) else 0))]))
            refine own_st (fun _ k => XS.istore X283.here hx rfl (hb hby at_125) rfl (l' := #[.val (.long p1), .second, .val (.long p2), .second, .val (.long p3), .second, .val (.long p4), .second, .val (.int p5), .val (.int (p5 &&& (3 : Int32))), .val (.int ((XT.ushr p5 (2 : Int32)) &&& (3 : Int32))), .val (.long p3), .second, .val (.long p4), .second, .val (.ref b242), .val (.ref b253), .val (.int (0 : Int32)), .val (.int (if p1 = p3 then (if p2 = p4 then (1 : Int32) else 0) else 0)), .unset]) rfl k) ?_
            show own_Go p e below s _ _ _ (T283.setTop (mkF m 127 #[.val (.long p1), .second, .val (.long p2), .second, .val (.long p3), .second, .val (.long p4), .second, .val (.int p5), .val (.int (p5 &&& (3 : Int32))), .val (.int ((XT.ushr p5 (2 : Int32)) &&& (3 : Int32))), .val (.long p3), .second, .val (.long p4), .second, .val (.ref b242), .val (.ref b253), .val (.int (0 : Int32)), .val (.int (if p1 = p3 then (if p2 = p4 then (1 : Int32) else 0) else 0)), .unset] []))
            refine own_st (fun _ k => XS.aload X283.here hx rfl (hb hby at_127) rfl rfl k) ?_
            show own_Go p e below s _ _ _ (T283.setTop (mkF m 129 #[.val (.long p1), .second, .val (.long p2), .second, .val (.long p3), .second, .val (.long p4), .second, .val (.int p5), .val (.int (p5 &&& (3 : Int32))), .val (.int ((XT.ushr p5 (2 : Int32)) &&& (3 : Int32))), .val (.long p3), .second, .val (.long p4), .second, .val (.ref b242), .val (.ref b253), .val (.int (0 : Int32)), .val (.int (if p1 = p3 then (if p2 = p4 then (1 : Int32) else 0) else 0)), .unset] [(.ref b253)]))
            refine own_st (fun _ k => XS.aload X283.here hx rfl (hb hby at_129) rfl rfl k) ?_
            show own_Go p e below s _ _ _ (T283.setTop (mkF m 131 #[.val (.long p1), .second, .val (.long p2), .second, .val (.long p3), .second, .val (.long p4), .second, .val (.int p5), .val (.int (p5 &&& (3 : Int32))), .val (.int ((XT.ushr p5 (2 : Int32)) &&& (3 : Int32))), .val (.long p3), .second, .val (.long p4), .second, .val (.ref b242), .val (.ref b253), .val (.int (0 : Int32)), .val (.int (if p1 = p3 then (if p2 = p4 then (1 : Int32) else 0) else 0)), .unset] [(.ref b242), (.ref b253)]))
            obtain ⟨cq289, kq289, q289a, q289b, q289c⟩ := isOf hZ eh283 q259
            obtain ⟨_, _, ⟨T289, L289, k289, n289⟩, -, X289, ⟨Lc289, hQ289, l289, y289, z289⟩, st289⟩ := X283.virtualBack hx (y := (⟨"com/example/epoch/epoch/protocol/record/TimestampedOffset", "equals", "(Ljava/lang/Object;)Z"⟩ : MethodName)) (z := (⟨"com/example/epoch/epoch/protocol/record/TimestampedOffset", "equals", "(Ljava/lang/Object;)Z"⟩ : MethodName)) hown (mvT hZ (hw _ (List.mem_of_getElem? (i := 13) rfl))) (mvT hZ (hw _ (List.mem_of_getElem? (i := 14) rfl))) (notFace_of_selects (args := #[]) (mvT hZ (hw _ (List.mem_of_getElem? (i := 16) rfl)))) (mvT hZ (hw _ (List.mem_of_getElem? (i := 16) rfl))) (mvT hZ (hw _ (List.mem_of_getElem? (i := 15) rfl))) (by decide) (backOf (W := 0) (own_rm_eqA l Z a0 hw [] b253 b242 p3 p4 p1 p2 T258.heap n0 Zs263 F284 q260 q261 F286 F287) hZ (hw _ (List.mem_of_getElem? (i := 17) rfl)) (hw _ (List.mem_of_getElem? (i := 2) rfl)) (by decide) (by decide)) q289a q289c (g := (mkF m 131 #[.val (.long p1), .second, .val (.long p2), .second, .val (.long p3), .second, .val (.long p4), .second, .val (.int p5), .val (.int (p5 &&& (3 : Int32))), .val (.int ((XT.ushr p5 (2 : Int32)) &&& (3 : Int32))), .val (.long p3), .second, .val (.long p4), .second, .val (.ref b242), .val (.ref b253), .val (.int (0 : Int32)), .val (.int (if p1 = p3 then (if p2 = p4 then (1 : Int32) else 0) else 0)), .unset] [(.ref b242), (.ref b253)])) rfl (by rw [hml]; rfl) (Steps.refl _) (argsL := [(.ref b242)]) (rest := []) (lenOf own_pd3 rfl) rfl (by show 2 * 0 + _ ≤ _; exact Nat.le_of_eq rfl) (hb hby at_131) (fun _ _ => ⟨rfl, eh283, (by decide : 2 + 0 ≤ _), (by decide : 4 + 0 ≤ _)⟩)
            dsimp only [Pt.U, Pt.locs, Pt.cells, Pt.slots] at X289 l289 y289 z289 st289 hQ289
            subst l289 y289 z289
            obtain ⟨N289q, rfl, eh289⟩ := hQ289
            have N290 := Fr.app N288 N289q
            refine own_tr st289 ?_
            show own_Go p e below s _ _ _ (T289.setTop (mkF m 134 #[.val (.long p1), .second, .val (.long p2), .second, .val (.long p3), .second, .val (.long p4), .second, .val (.int p5), .val (.int (p5 &&& (3 : Int32))), .val (.int ((XT.ushr p5 (2 : Int32)) &&& (3 : Int32))), .val (.long p3), .second, .val (.long p4), .second, .val (.ref b242), .val (.ref b253), .val (.int (0 : Int32)), .val (.int (if p1 = p3 then (if p2 = p4 then (1 : Int32) else 0) else 0)), .unset] [(.int (if p3 = p1 then (if p4 = p2 then (1 : Int32) else 0) else 0))]))
            refine own_st (fun _ k => XS.istore X289.here hx rfl (hb hby at_134) rfl (l' := #[.val (.long p1), .second, .val (.long p2), .second, .val (.long p3), .second, .val (.long p4), .second, .val (.int p5), .val (.int (p5 &&& (3 : Int32))), .val (.int ((XT.ushr p5 (2 : Int32)) &&& (3 : Int32))), .val (.long p3), .second, .val (.long p4), .second, .val (.ref b242), .val (.ref b253), .val (.int (0 : Int32)), .val (.int (if p1 = p3 then (if p2 = p4 then (1 : Int32) else 0) else 0)), .val (.int (if p3 = p1 then (if p4 = p2 then (1 : Int32) else 0) else 0))]) rfl k) ?_
            show own_Go p e below s _ _ _ (T289.setTop (mkF m 136 #[.val (.long p1), .second, .val (.long p2), .second, .val (.long p3), .second, .val (.long p4), .second, .val (.int p5), .val (.int (p5 &&& (3 : Int32))), .val (.int ((XT.ushr p5 (2 : Int32)) &&& (3 : Int32))), .val (.long p3), .second, .val (.long p4), .second, .val (.ref b242), .val (.ref b253), .val (.int (0 : Int32)), .val (.int (if p1 = p3 then (if p2 = p4 then (1 : Int32) else 0) else 0)), .val (.int (if p3 = p1 then (if p4 = p2 then (1 : Int32) else 0) else 0))] []))
            refine own_st (fun _ k => XS.iload X289.here hx rfl (hb hby at_136) rfl k) ?_
            show own_Go p e below s _ _ _ (T289.setTop (mkF m 138 #[.val (.long p1), .second, .val (.long p2), .second, .val (.long p3), .second, .val (.long p4), .second, .val (.int p5), .val (.int (p5 &&& (3 : Int32))), .val (.int ((XT.ushr p5 (2 : Int32)) &&& (3 : Int32))), .val (.long p3), .second, .val (.long p4), .second, .val (.ref b242), .val (.ref b253), .val (.int (0 : Int32)), .val (.int (if p1 = p3 then (if p2 = p4 then (1 : Int32) else 0) else 0)), .val (.int (if p3 = p1 then (if p4 = p2 then (1 : Int32) else 0) else 0))] [(.int (if p1 = p3 then (if p2 = p4 then (1 : Int32) else 0) else 0))]))
            refine own_st (fun _ k => XS.iload X289.here hx rfl (hb hby at_138) rfl k) ?_
            show own_Go p e below s _ _ _ (T289.setTop (mkF m 140 #[.val (.long p1), .second, .val (.long p2), .second, .val (.long p3), .second, .val (.long p4), .second, .val (.int p5), .val (.int (p5 &&& (3 : Int32))), .val (.int ((XT.ushr p5 (2 : Int32)) &&& (3 : Int32))), .val (.long p3), .second, .val (.long p4), .second, .val (.ref b242), .val (.ref b253), .val (.int (0 : Int32)), .val (.int (if p1 = p3 then (if p2 = p4 then (1 : Int32) else 0) else 0)), .val (.int (if p3 = p1 then (if p4 = p2 then (1 : Int32) else 0) else 0))] [(.int (0 : Int32)), (.int (if p1 = p3 then (if p2 = p4 then (1 : Int32) else 0) else 0))]))
            refine own_st (fun _ k => XS.icmpNo X289.here hx rfl (hb hby at_140) rfl (XT.ii_ne_f (by simp [hc265, (eq_comm : p1 = p3 ↔ p3 = p1)])) k) ?_
            show own_Go p e below s _ _ _ (T289.setTop (mkF m 143 #[.val (.long p1), .second, .val (.long p2), .second, .val (.long p3), .second, .val (.long p4), .second, .val (.int p5), .val (.int (p5 &&& (3 : Int32))), .val (.int ((XT.ushr p5 (2 : Int32)) &&& (3 : Int32))), .val (.long p3), .second, .val (.long p4), .second, .val (.ref b242), .val (.ref b253), .val (.int (0 : Int32)), .val (.int (if p1 = p3 then (if p2 = p4 then (1 : Int32) else 0) else 0)), .val (.int (if p3 = p1 then (if p4 = p2 then (1 : Int32) else 0) else 0))] []))
            refine own_st (fun _ k => XS.iload X289.here hx rfl (hb hby at_143) rfl k) ?_
            show own_Go p e below s _ _ _ (T289.setTop (mkF m 145 #[.val (.long p1), .second, .val (.long p2), .second, .val (.long p3), .second, .val (.long p4), .second, .val (.int p5), .val (.int (p5 &&& (3 : Int32))), .val (.int ((XT.ushr p5 (2 : Int32)) &&& (3 : Int32))), .val (.long p3), .second, .val (.long p4), .second, .val (.ref b242), .val (.ref b253), .val (.int (0 : Int32)), .val (.int (if p1 = p3 then (if p2 = p4 then (1 : Int32) else 0) else 0)), .val (.int (if p3 = p1 then (if p4 = p2 then (1 : Int32) else 0) else 0))] [(.int (if p3 = p1 then (if p4 = p2 then (1 : Int32) else 0) else 0))]))
            refine own_st (fun _ k => XS.iload X289.here hx rfl (hb hby at_145) rfl k) ?_
            show own_Go p e below s _ _ _ (T289.setTop (mkF m 147 #[.val (.long p1), .second, .val (.long p2), .second, .val (.long p3), .second, .val (.long p4), .second, .val (.int p5), .val (.int (p5 &&& (3 : Int32))), .val (.int ((XT.ushr p5 (2 : Int32)) &&& (3 : Int32))), .val (.long p3), .second, .val (.long p4), .second, .val (.ref b242), .val (.ref b253), .val (.int (0 : Int32)), .val (.int (if p1 = p3 then (if p2 = p4 then (1 : Int32) else 0) else 0)), .val (.int (if p3 = p1 then (if p4 = p2 then (1 : Int32) else 0) else 0))] [(.int (0 : Int32)), (.int (if p3 = p1 then (if p4 = p2 then (1 : Int32) else 0) else 0))]))
            refine own_st (fun _ k => XS.icmpNo X289.here hx rfl (hb hby at_147) rfl (XT.ii_ne_f (by simp [hc265, (eq_comm : p1 = p3 ↔ p3 = p1)])) k) ?_
            show own_Go p e below s _ _ _ (T289.setTop (mkF m 150 #[.val (.long p1), .second, .val (.long p2), .second, .val (.long p3), .second, .val (.long p4), .second, .val (.int p5), .val (.int (p5 &&& (3 : Int32))), .val (.int ((XT.ushr p5 (2 : Int32)) &&& (3 : Int32))), .val (.long p3), .second, .val (.long p4), .second, .val (.ref b242), .val (.ref b253), .val (.int (0 : Int32)), .val (.int (if p1 = p3 then (if p2 = p4 then (1 : Int32) else 0) else 0)), .val (.int (if p3 = p1 then (if p4 = p2 then (1 : Int32) else 0) else 0))] []))
            refine own_st (fun _ k => XT.iconstV X289.here hx rfl (1 : Int32) (hb hby at_150) (by decide) k) ?_
            show own_Go p e below s _ _ _ (T289.setTop (mkF m 151 #[.val (.long p1), .second, .val (.long p2), .second, .val (.long p3), .second, .val (.long p4), .second, .val (.int p5), .val (.int (p5 &&& (3 : Int32))), .val (.int ((XT.ushr p5 (2 : Int32)) &&& (3 : Int32))), .val (.long p3), .second, .val (.long p4), .second, .val (.ref b242), .val (.ref b253), .val (.int (0 : Int32)), .val (.int (if p1 = p3 then (if p2 = p4 then (1 : Int32) else 0) else 0)), .val (.int (if p3 = p1 then (if p4 = p2 then (1 : Int32) else 0) else 0))] [(.int (1 : Int32))]))
            refine own_st (fun _ k => XS.goto X289.here hx rfl (pc0 := 151) (pc' := 155) rfl (hb hby at_151) (by decide) (by decide) k) ?_
            show own_Go p e below s _ _ _ (T289.setTop (mkF m 155 #[.val (.long p1), .second, .val (.long p2), .second, .val (.long p3), .second, .val (.long p4), .second, .val (.int p5), .val (.int (p5 &&& (3 : Int32))), .val (.int ((XT.ushr p5 (2 : Int32)) &&& (3 : Int32))), .val (.long p3), .second, .val (.long p4), .second, .val (.ref b242), .val (.ref b253), .val (.int (0 : Int32)), .val (.int (if p1 = p3 then (if p2 = p4 then (1 : Int32) else 0) else 0)), .val (.int (if p3 = p1 then (if p4 = p2 then (1 : Int32) else 0) else 0))] [(.int (1 : Int32))]))
            refine own_retN X289 hx hlk Bd.returns (t := .boolean) (z' := (1 : Int32)) (by simp) (by decide) (hb hby at_155) (by decide) (by decide) ?_
            rw [eh289]
            exact ⟨N290, rfl⟩
        · refine own_st (fun _ k => XS.ifYes X258.here hx rfl (pc0 := 94) (pc' := 156) rfl (hb hby at_94) rfl (XT.i0_ne_t hc264) (by decide) (by decide) k) ?_
          show own_Go p e below s _ _ _ (T258.setTop (mkF m 156 #[.val (.long p1), .second, .val (.long p2), .second, .val (.long p3), .second, .val (.long p4), .second, .val (.int p5), .val (.int (p5 &&& (3 : Int32))), .val (.int ((XT.ushr p5 (2 : Int32)) &&& (3 : Int32))), .val (.long p3), .second, .val (.long p4), .second, .val (.ref b242), .val (.ref b253), .unset, .unset, .unset] []))
          refine own_st (fun _ k => XS.iload X258.here hx rfl (hb hby at_156) rfl k) ?_
          show own_Go p e below s _ _ _ (T258.setTop (mkF m 158 #[.val (.long p1), .second, .val (.long p2), .second, .val (.long p3), .second, .val (.long p4), .second, .val (.int p5), .val (.int (p5 &&& (3 : Int32))), .val (.int ((XT.ushr p5 (2 : Int32)) &&& (3 : Int32))), .val (.long p3), .second, .val (.long p4), .second, .val (.ref b242), .val (.ref b253), .unset, .unset, .unset] [(.int ((XT.ushr p5 (2 : Int32)) &&& (3 : Int32)))]))
          refine own_st (fun _ k => XT.iconstV X258.here hx rfl (1 : Int32) (hb hby at_158) (by decide) k) ?_
          show own_Go p e below s _ _ _ (T258.setTop (mkF m 159 #[.val (.long p1), .second, .val (.long p2), .second, .val (.long p3), .second, .val (.long p4), .second, .val (.int p5), .val (.int (p5 &&& (3 : Int32))), .val (.int ((XT.ushr p5 (2 : Int32)) &&& (3 : Int32))), .val (.long p3), .second, .val (.long p4), .second, .val (.ref b242), .val (.ref b253), .unset, .unset, .unset] [(.int (1 : Int32)), (.int ((XT.ushr p5 (2 : Int32)) &&& (3 : Int32)))]))
          by_cases hc291 : ((XT.ushr p5 (2 : Int32)) &&& (3 : Int32)) = (1 : Int32)
          · refine own_st (fun _ k => XS.icmpNo X258.here hx rfl (hb hby at_159) rfl (XT.ii_ne_f hc291) k) ?_
            show own_Go p e below s _ _ _ (T258.setTop (mkF m 162 #[.val (.long p1), .second, .val (.long p2), .second, .val (.long p3), .second, .val (.long p4), .second, .val (.int p5), .val (.int (p5 &&& (3 : Int32))), .val (.int ((XT.ushr p5 (2 : Int32)) &&& (3 : Int32))), .val (.long p3), .second, .val (.long p4), .second, .val (.ref b242), .val (.ref b253), .unset, .unset, .unset] []))
            refine own_st (fun _ k => XS.aconstNull X258.here hx rfl (hb hby at_162) k) ?_
            show own_Go p e below s _ _ _ (T258.setTop (mkF m 163 #[.val (.long p1), .second, .val (.long p2), .second, .val (.long p3), .second, .val (.long p4), .second, .val (.int p5), .val (.int (p5 &&& (3 : Int32))), .val (.int ((XT.ushr p5 (2 : Int32)) &&& (3 : Int32))), .val (.long p3), .second, .val (.long p4), .second, .val (.ref b242), .val (.ref b253), .unset, .unset, .unset] [.null]))
            refine own_st (fun _ k => XS.astore X258.here hx rfl (hb hby at_163) rfl rfl (l' := #[.val (.long p1), .second, .val (.long p2), .second, .val (.long p3), .second, .val (.long p4), .second, .val (.int p5), .val (.int (p5 &&& (3 : Int32))), .val (.int ((XT.ushr p5 (2 : Int32)) &&& (3 : Int32))), .val (.long p3), .second, .val (.long p4), .second, .val (.ref b242), .val (.ref b253), .val .null, .unset, .unset]) rfl k) ?_
            show own_Go p e below s _ _ _ (T258.setTop (mkF m 165 #[.val (.long p1), .second, .val (.long p2), .second, .val (.long p3), .second, .val (.long p4), .second, .val (.int p5), .val (.int (p5 &&& (3 : Int32))), .val (.int ((XT.ushr p5 (2 : Int32)) &&& (3 : Int32))), .val (.long p3), .second, .val (.long p4), .second, .val (.ref b242), .val (.ref b253), .val .null, .unset, .unset] []))
            refine own_st (fun _ k => XS.aload X258.here hx rfl (hb hby at_165) rfl rfl k) ?_
            show own_Go p e below s _ _ _ (T258.setTop (mkF m 167 #[.val (.long p1), .second, .val (.long p2), .second, .val (.long p3), .second, .val (.long p4), .second, .val (.int p5), .val (.int (p5 &&& (3 : Int32))), .val (.int ((XT.ushr p5 (2 : Int32)) &&& (3 : Int32))), .val (.long p3), .second, .val (.long p4), .second, .val (.ref b242), .val (.ref b253), .val .null, .unset, .unset] [(.ref b242)]))
            refine own_st (fun _ k => XS.aload X258.here hx rfl (hb hby at_167) rfl rfl k) ?_
            show own_Go p e below s _ _ _ (T258.setTop (mkF m 169 #[.val (.long p1), .second, .val (.long p2), .second, .val (.long p3), .second, .val (.long p4), .second, .val (.int p5), .val (.int (p5 &&& (3 : Int32))), .val (.int ((XT.ushr p5 (2 : Int32)) &&& (3 : Int32))), .val (.long p3), .second, .val (.long p4), .second, .val (.ref b242), .val (.ref b253), .val .null, .unset, .unset] [.null, (.ref b242)]))
            have F293 : Exa Z T258.heap b242 "com/example/epoch/epoch/protocol/record/TimestampedOffset" := ((q248.ext E253).keep K258)
            obtain ⟨cq292, kq292, q292a, q292b, q292c⟩ := isOf hZ rfl F293
            obtain ⟨_, _, ⟨T292, L292, k292, n292⟩, -, X292, ⟨Lc292, hQ292, l292, y292, z292⟩, st292⟩ := X258.virtualBack hx (y := (⟨"com/example/epoch/epoch/protocol/record/TimestampedOffset", "equals", "(Ljava/lang/Object;)Z"⟩ : MethodName)) (z := (⟨"com/example/epoch/epoch/protocol/record/TimestampedOffset", "equals", "(Ljava/lang/Object;)Z"⟩ : MethodName)) hown (mvT hZ (hw _ (List.mem_of_getElem? (i := 13) rfl))) (mvT hZ (hw _ (List.mem_of_getElem? (i := 14) rfl))) (notFace_of_selects (args := #[]) (mvT hZ (hw _ (List.mem_of_getElem? (i := 16) rfl)))) (mvT hZ (hw _ (List.mem_of_getElem? (i := 16) rfl))) (mvT hZ (hw _ (List.mem_of_getElem? (i := 15) rfl))) (by decide) (backOf (W := 0) (own_rm_eqN l Z a0 hw [] b242 T258.heap n0 Zs263 ) hZ (hw _ (List.mem_of_getElem? (i := 17) rfl)) (hw _ (List.mem_of_getElem? (i := 2) rfl)) (by decide) (by decide)) q292a q292c (g := (mkF m 169 #[.val (.long p1), .second, .val (.long p2), .second, .val (.long p3), .second, .val (.long p4), .second, .val (.int p5), .val (.int (p5 &&& (3 : Int32))), .val (.int ((XT.ushr p5 (2 : Int32)) &&& (3 : Int32))), .val (.long p3), .second, .val (.long p4), .second, .val (.ref b242), .val (.ref b253), .val .null, .unset, .unset] [.null, (.ref b242)])) rfl (by rw [hml]; rfl) (Steps.refl _) (argsL := [.null]) (rest := []) (lenOf own_pd3 rfl) rfl (by show 2 * 0 + _ ≤ _; exact Nat.le_of_eq rfl) (hb hby at_169) (fun _ _ => ⟨rfl, rfl, (by decide : 2 + 0 ≤ _), (by decide : 4 + 0 ≤ _)⟩)
            dsimp only [Pt.U, Pt.locs, Pt.cells, Pt.slots] at X292 l292 y292 z292 st292 hQ292
            subst l292 y292 z292
            obtain ⟨N292q, rfl, eh292⟩ := hQ292
            have N294 := Fr.app N262 N292q
            refine own_tr st292 ?_
            show own_Go p e below s _ _ _ (T292.setTop (mkF m 172 #[.val (.long p1), .second, .val (.long p2), .second, .val (.long p3), .second, .val (.long p4), .second, .val (.int p5), .val (.int (p5 &&& (3 : Int32))), .val (.int ((XT.ushr p5 (2 : Int32)) &&& (3 : Int32))), .val (.long p3), .second, .val (.long p4), .second, .val (.ref b242), .val (.ref b253), .val .null, .unset, .unset] [(.int (0 : Int32))]))
            refine own_st (fun _ k => XS.ifNo X292.here hx rfl (hb hby at_172) rfl (XT.i0_ne_f (by decide)) k) ?_
            show own_Go p e below s _ _ _ (T292.setTop (mkF m 175 #[.val (.long p1), .second, .val (.long p2), .second, .val (.long p3), .second, .val (.long p4), .second, .val (.int p5), .val (.int (p5 &&& (3 : Int32))), .val (.int ((XT.ushr p5 (2 : Int32)) &&& (3 : Int32))), .val (.long p3), .second, .val (.long p4), .second, .val (.ref b242), .val (.ref b253), .val .null, .unset, .unset] []))
            refine own_st (fun _ k => XT.iconstV X292.here hx rfl (1 : Int32) (hb hby at_175) (by decide) k) ?_
            show own_Go p e below s _ _ _ (T292.setTop (mkF m 176 #[.val (.long p1), .second, .val (.long p2), .second, .val (.long p3), .second, .val (.long p4), .second, .val (.int p5), .val (.int (p5 &&& (3 : Int32))), .val (.int ((XT.ushr p5 (2 : Int32)) &&& (3 : Int32))), .val (.long p3), .second, .val (.long p4), .second, .val (.ref b242), .val (.ref b253), .val .null, .unset, .unset] [(.int (1 : Int32))]))
            refine own_st (fun _ k => XS.goto X292.here hx rfl (pc0 := 176) (pc' := 180) rfl (hb hby at_176) (by decide) (by decide) k) ?_
            show own_Go p e below s _ _ _ (T292.setTop (mkF m 180 #[.val (.long p1), .second, .val (.long p2), .second, .val (.long p3), .second, .val (.long p4), .second, .val (.int p5), .val (.int (p5 &&& (3 : Int32))), .val (.int ((XT.ushr p5 (2 : Int32)) &&& (3 : Int32))), .val (.long p3), .second, .val (.long p4), .second, .val (.ref b242), .val (.ref b253), .val .null, .unset, .unset] [(.int (1 : Int32))]))
            refine own_retN X292 hx hlk Bd.returns (t := .boolean) (z' := (1 : Int32)) (by simp) (by decide) (hb hby at_180) (by decide) (by decide) ?_
            rw [eh292]
            exact ⟨N294, rfl⟩
          · refine own_st (fun _ k => XS.icmpYes X258.here hx rfl (pc0 := 159) (pc' := 181) rfl (hb hby at_159) rfl (XT.ii_ne_t hc291) (by decide) (by decide) k) ?_
            show own_Go p e below s _ _ _ (T258.setTop (mkF m 181 #[.val (.long p1), .second, .val (.long p2), .second, .val (.long p3), .second, .val (.long p4), .second, .val (.int p5), .val (.int (p5 &&& (3 : Int32))), .val (.int ((XT.ushr p5 (2 : Int32)) &&& (3 : Int32))), .val (.long p3), .second, .val (.long p4), .second, .val (.ref b242), .val (.ref b253), .unset, .unset, .unset] []))
            refine own_st (fun _ k => XS.iload X258.here hx rfl (hb hby at_181) rfl k) ?_
            show own_Go p e below s _ _ _ (T258.setTop (mkF m 183 #[.val (.long p1), .second, .val (.long p2), .second, .val (.long p3), .second, .val (.long p4), .second, .val (.int p5), .val (.int (p5 &&& (3 : Int32))), .val (.int ((XT.ushr p5 (2 : Int32)) &&& (3 : Int32))), .val (.long p3), .second, .val (.long p4), .second, .val (.ref b242), .val (.ref b253), .unset, .unset, .unset] [(.int ((XT.ushr p5 (2 : Int32)) &&& (3 : Int32)))]))
            refine own_st (fun _ k => XT.iconstV X258.here hx rfl (2 : Int32) (hb hby at_183) (by decide) k) ?_
            show own_Go p e below s _ _ _ (T258.setTop (mkF m 184 #[.val (.long p1), .second, .val (.long p2), .second, .val (.long p3), .second, .val (.long p4), .second, .val (.int p5), .val (.int (p5 &&& (3 : Int32))), .val (.int ((XT.ushr p5 (2 : Int32)) &&& (3 : Int32))), .val (.long p3), .second, .val (.long p4), .second, .val (.ref b242), .val (.ref b253), .unset, .unset, .unset] [(.int (2 : Int32)), (.int ((XT.ushr p5 (2 : Int32)) &&& (3 : Int32)))]))
            by_cases hc295 : ((XT.ushr p5 (2 : Int32)) &&& (3 : Int32)) = (2 : Int32)
            · refine own_st (fun _ k => XS.icmpNo X258.here hx rfl (hb hby at_184) rfl (XT.ii_ne_f hc295) k) ?_
              show own_Go p e below s _ _ _ (T258.setTop (mkF m 187 #[.val (.long p1), .second, .val (.long p2), .second, .val (.long p3), .second, .val (.long p4), .second, .val (.int p5), .val (.int (p5 &&& (3 : Int32))), .val (.int ((XT.ushr p5 (2 : Int32)) &&& (3 : Int32))), .val (.long p3), .second, .val (.long p4), .second, .val (.ref b242), .val (.ref b253), .unset, .unset, .unset] []))
              refine own_st (fun _ k => XT.lloadN X258.here hx rfl (hb hby at_187) rfl k) ?_
              show own_Go p e below s _ _ _ (T258.setTop (mkF m 188 #[.val (.long p1), .second, .val (.long p2), .second, .val (.long p3), .second, .val (.long p4), .second, .val (.int p5), .val (.int (p5 &&& (3 : Int32))), .val (.int ((XT.ushr p5 (2 : Int32)) &&& (3 : Int32))), .val (.long p3), .second, .val (.long p4), .second, .val (.ref b242), .val (.ref b253), .unset, .unset, .unset] [(.long p1)]))
              have O297 : Old Z n0 T258.heap := ((((O0.ext E242).keep K247 (allS g244 all0)).ext E253).keep K258 (allS g255 all0))
              obtain ⟨_, _, ⟨T296, L296, k296, n296⟩, -, X296, ⟨Lc296, hQ296, l296, y296, z296⟩, st296⟩ := Jvm.LawKit.callS X258 hx (y := (⟨"java/lang/Long", "valueOf", "(J)Ljava/lang/Long;"⟩ : MethodName)) hown (mvT hZ (hw _ (List.mem_of_getElem? (i := 20) rfl))) (mvT hZ (hw _ (List.mem_of_getElem? (i := 21) rfl))) (mvT hZ (hw _ (List.mem_of_getElem? (i := 22) rfl))) (mvT hZ (hw _ (List.mem_of_getElem? (i := 23) rfl))) (by decide) (backOf (W := 0) (own_rm_valueOfJ l Z a0 hw [] p1 a_cacheJ T258.heap n0 Zs263 O297 S_cacheJ BxJ) hZ (hw _ (List.mem_of_getElem? (i := 23) rfl)) (hw _ (List.mem_of_getElem? (i := 22) rfl)) (by decide) (by decide)) (g := (mkF m 188 #[.val (.long p1), .second, .val (.long p2), .second, .val (.long p3), .second, .val (.long p4), .second, .val (.int p5), .val (.int (p5 &&& (3 : Int32))), .val (.int ((XT.ushr p5 (2 : Int32)) &&& (3 : Int32))), .val (.long p3), .second, .val (.long p4), .second, .val (.ref b242), .val (.ref b253), .unset, .unset, .unset] [(.long p1)])) rfl (by rw [hml]; rfl) (argsL := [(.long p1)]) (rest := []) (lenOf own_pd4 rfl) rfl (by show 2 * 0 + _ ≤ _; exact Nat.le_of_eq rfl) (hb hby at_188) (fun _ _ => ⟨rfl, rfl, (by decide : 2 + 1 ≤ _), (by decide : 4 + 1 ≤ _)⟩)
              dsimp only [Pt.U, Pt.locs, Pt.cells, Pt.slots] at X296 l296 y296 z296 st296 hQ296
              subst l296 y296 z296
              obtain ⟨x298, N296q, rfl, K296, q299, q300⟩ := hQ296
              have N301 := Fr.app N262 N296q
              refine own_st st296 ?_
              have Zs302 : n0 ≤ T296.heap.size := Nat.le_trans Zs263 K296.1
              show own_Go p e below s _ _ _ (T296.setTop (mkF m 191 #[.val (.long p1), .second, .val (.long p2), .second, .val (.long p3), .second, .val (.long p4), .second, .val (.int p5), .val (.int (p5 &&& (3 : Int32))), .val (.int ((XT.ushr p5 (2 : Int32)) &&& (3 : Int32))), .val (.long p3), .second, .val (.long p4), .second, .val (.ref b242), .val (.ref b253), .unset, .unset, .unset] [(.ref x298)]))
              refine own_st (fun _ k => XS.astore X296.here hx rfl (hb hby at_191) rfl rfl (l' := #[.val (.long p1), .second, .val (.long p2), .second, .val (.long p3), .second, .val (.long p4), .second, .val (.int p5), .val (.int (p5 &&& (3 : Int32))), .val (.int ((XT.ushr p5 (2 : Int32)) &&& (3 : Int32))), .val (.long p3), .second, .val (.long p4), .second, .val (.ref b242), .val (.ref b253), .val (.ref x298), .unset, .unset]) rfl k) ?_
              show own_Go p e below s _ _ _ (T296.setTop (mkF m 193 #[.val (.long p1), .second, .val (.long p2), .second, .val (.long p3), .second, .val (.long p4), .second, .val (.int p5), .val (.int (p5 &&& (3 : Int32))), .val (.int ((XT.ushr p5 (2 : Int32)) &&& (3 : Int32))), .val (.long p3), .second, .val (.long p4), .second, .val (.ref b242), .val (.ref b253), .val (.ref x298), .unset, .unset] []))
              refine own_st (fun _ k => XS.aload X296.here hx rfl (hb hby at_193) rfl rfl k) ?_
              show own_Go p e below s _ _ _ (T296.setTop (mkF m 195 #[.val (.long p1), .second, .val (.long p2), .second, .val (.long p3), .second, .val (.long p4), .second, .val (.int p5), .val (.int (p5 &&& (3 : Int32))), .val (.int ((XT.ushr p5 (2 : Int32)) &&& (3 : Int32))), .val (.long p3), .second, .val (.long p4), .second, .val (.ref b242), .val (.ref b253), .val (.ref x298), .unset, .unset] [(.ref b242)]))
              refine own_st (fun _ k => XS.aload X296.here hx rfl (hb hby at_195) rfl rfl k) ?_
              show own_Go p e below s _ _ _ (T296.setTop (mkF m 197 #[.val (.long p1), .second, .val (.long p2), .second, .val (.long p3), .second, .val (.long p4), .second, .val (.int p5), .val (.int (p5 &&& (3 : Int32))), .val (.int ((XT.ushr p5 (2 : Int32)) &&& (3 : Int32))), .val (.long p3), .second, .val (.long p4), .second, .val (.ref b242), .val (.ref b253), .val (.ref x298), .unset, .unset] [(.ref x298), (.ref b242)]))
              have F304 : Exa Z T296.heap b242 "com/example/epoch/epoch/protocol/record/TimestampedOffset" := (((q248.ext E253).keep K258).keep K296)
              obtain ⟨cq303, kq303, q303a, q303b, q303c⟩ := isOf hZ rfl F304
              obtain ⟨_, _, ⟨T303, L303, k303, n303⟩, -, X303, ⟨Lc303, hQ303, l303, y303, z303⟩, st303⟩ := X296.virtualBack hx (y := (⟨"com/example/epoch/epoch/protocol/record/TimestampedOffset", "equals", "(Ljava/lang/Object;)Z"⟩ : MethodName)) (z := (⟨"com/example/epoch/epoch/protocol/record/TimestampedOffset", "equals", "(Ljava/lang/Object;)Z"⟩ : MethodName)) hown (mvT hZ (hw _ (List.mem_of_getElem? (i := 13) rfl))) (mvT hZ (hw _ (List.mem_of_getElem? (i := 14) rfl))) (notFace_of_selects (args := #[]) (mvT hZ (hw _ (List.mem_of_getElem? (i := 16) rfl)))) (mvT hZ (hw _ (List.mem_of_getElem? (i := 16) rfl))) (mvT hZ (hw _ (List.mem_of_getElem? (i := 15) rfl))) (by decide) (backOf (W := 0) (own_rm_eqL l Z a0 hw [] b242 x298 T296.heap n0 Zs302 q299) hZ (hw _ (List.mem_of_getElem? (i := 17) rfl)) (hw _ (List.mem_of_getElem? (i := 2) rfl)) (by decide) (by decide)) q303a q303c (g := (mkF m 197 #[.val (.long p1), .second, .val (.long p2), .second, .val (.long p3), .second, .val (.long p4), .second, .val (.int p5), .val (.int (p5 &&& (3 : Int32))), .val (.int ((XT.ushr p5 (2 : Int32)) &&& (3 : Int32))), .val (.long p3), .second, .val (.long p4), .second, .val (.ref b242), .val (.ref b253), .val (.ref x298), .unset, .unset] [(.ref x298), (.ref b242)])) rfl (by rw [hml]; rfl) (Steps.refl _) (argsL := [(.ref x298)]) (rest := []) (lenOf own_pd3 rfl) rfl (by show 2 * 0 + _ ≤ _; exact Nat.le_of_eq rfl) (hb hby at_197) (fun _ _ => ⟨rfl, rfl, (by decide : 3 + 0 ≤ _), (by decide : 5 + 0 ≤ _)⟩)
              dsimp only [Pt.U, Pt.locs, Pt.cells, Pt.slots] at X303 l303 y303 z303 st303 hQ303
              subst l303 y303 z303
              obtain ⟨N303q, rfl, eh303⟩ := hQ303
              have N305 := Fr.app N301 N303q
              refine own_tr st303 ?_
              show own_Go p e below s _ _ _ (T303.setTop (mkF m 200 #[.val (.long p1), .second, .val (.long p2), .second, .val (.long p3), .second, .val (.long p4), .second, .val (.int p5), .val (.int (p5 &&& (3 : Int32))), .val (.int ((XT.ushr p5 (2 : Int32)) &&& (3 : Int32))), .val (.long p3), .second, .val (.long p4), .second, .val (.ref b242), .val (.ref b253), .val (.ref x298), .unset, .unset] [(.int (0 : Int32))]))
              refine own_st (fun _ k => XS.ifNo X303.here hx rfl (hb hby at_200) rfl (XT.i0_ne_f (by decide)) k) ?_
              show own_Go p e below s _ _ _ (T303.setTop (mkF m 203 #[.val (.long p1), .second, .val (.long p2), .second, .val (.long p3), .second, .val (.long p4), .second, .val (.int p5), .val (.int (p5 &&& (3 : Int32))), .val (.int ((XT.ushr p5 (2 : Int32)) &&& (3 : Int32))), .val (.long p3), .second, .val (.long p4), .second, .val (.ref b242), .val (.ref b253), .val (.ref x298), .unset, .unset] []))
              refine own_st (fun _ k => XT.iconstV X303.here hx rfl (1 : Int32) (hb hby at_203) (by decide) k) ?_
              show own_Go p e below s _ _ _ (T303.setTop (mkF m 204 #[.val (.long p1), .second, .val (.long p2), .second, .val (.long p3), .second, .val (.long p4), .second, .val (.int p5), .val (.int (p5 &&& (3 : Int32))), .val (.int ((XT.ushr p5 (2 : Int32)) &&& (3 : Int32))), .val (.long p3), .second, .val (.long p4), .second, .val (.ref b242), .val (.ref b253), .val (.ref x298), .unset, .unset] [(.int (1 : Int32))]))
              refine own_st (fun _ k => XS.goto X303.here hx rfl (pc0 := 204) (pc' := 208) rfl (hb hby at_204) (by decide) (by decide) k) ?_
              show own_Go p e below s _ _ _ (T303.setTop (mkF m 208 #[.val (.long p1), .second, .val (.long p2), .second, .val (.long p3), .second, .val (.long p4), .second, .val (.int p5), .val (.int (p5 &&& (3 : Int32))), .val (.int ((XT.ushr p5 (2 : Int32)) &&& (3 : Int32))), .val (.long p3), .second, .val (.long p4), .second, .val (.ref b242), .val (.ref b253), .val (.ref x298), .unset, .unset] [(.int (1 : Int32))]))
              refine own_retN X303 hx hlk Bd.returns (t := .boolean) (z' := (1 : Int32)) (by simp) (by decide) (hb hby at_208) (by decide) (by decide) ?_
              rw [eh303]
              exact ⟨N305, rfl⟩
            · refine own_st (fun _ k => XS.icmpYes X258.here hx rfl (pc0 := 184) (pc' := 209) rfl (hb hby at_184) rfl (XT.ii_ne_t hc295) (by decide) (by decide) k) ?_
              show own_Go p e below s _ _ _ (T258.setTop (mkF m 209 #[.val (.long p1), .second, .val (.long p2), .second, .val (.long p3), .second, .val (.long p4), .second, .val (.int p5), .val (.int (p5 &&& (3 : Int32))), .val (.int ((XT.ushr p5 (2 : Int32)) &&& (3 : Int32))), .val (.long p3), .second, .val (.long p4), .second, .val (.ref b242), .val (.ref b253), .unset, .unset, .unset] []))
              refine own_st (fun _ k => XS.aload X258.here hx rfl (hb hby at_209) rfl rfl k) ?_
              show own_Go p e below s _ _ _ (T258.setTop (mkF m 211 #[.val (.long p1), .second, .val (.long p2), .second, .val (.long p3), .second, .val (.long p4), .second, .val (.int p5), .val (.int (p5 &&& (3 : Int32))), .val (.int ((XT.ushr p5 (2 : Int32)) &&& (3 : Int32))), .val (.long p3), .second, .val (.long p4), .second, .val (.ref b242), .val (.ref b253), .unset, .unset, .unset] [(.ref b242)]))
              refine own_st (fun _ k => XS.astore X258.here hx rfl (hb hby at_211) rfl rfl (l' := #[.val (.long p1), .second, .val (.long p2), .second, .val (.long p3), .second, .val (.long p4), .second, .val (.int p5), .val (.int (p5 &&& (3 : Int32))), .val (.int ((XT.ushr p5 (2 : Int32)) &&& (3 : Int32))), .val (.long p3), .second, .val (.long p4), .second, .val (.ref b242), .val (.ref b253), .val (.ref b242), .unset, .unset]) rfl k) ?_
              show own_Go p e below s _ _ _ (T258.setTop (mkF m 213 #[.val (.long p1), .second, .val (.long p2), .second, .val (.long p3), .second, .val (.long p4), .second, .val (.int p5), .val (.int (p5 &&& (3 : Int32))), .val (.int ((XT.ushr p5 (2 : Int32)) &&& (3 : Int32))), .val (.long p3), .second, .val (.long p4), .second, .val (.ref b242), .val (.ref b253), .val (.ref b242), .unset, .unset] []))
              refine own_st (fun _ k => XS.aload X258.here hx rfl (hb hby at_213) rfl rfl k) ?_
              show own_Go p e below s _ _ _ (T258.setTop (mkF m 215 #[.val (.long p1), .second, .val (.long p2), .second, .val (.long p3), .second, .val (.long p4), .second, .val (.int p5), .val (.int (p5 &&& (3 : Int32))), .val (.int ((XT.ushr p5 (2 : Int32)) &&& (3 : Int32))), .val (.long p3), .second, .val (.long p4), .second, .val (.ref b242), .val (.ref b253), .val (.ref b242), .unset, .unset] [(.ref b242)]))
              refine own_st (fun _ k => XS.aload X258.here hx rfl (hb hby at_215) rfl rfl k) ?_
              show own_Go p e below s _ _ _ (T258.setTop (mkF m 217 #[.val (.long p1), .second, .val (.long p2), .second, .val (.long p3), .second, .val (.long p4), .second, .val (.int p5), .val (.int (p5 &&& (3 : Int32))), .val (.int ((XT.ushr p5 (2 : Int32)) &&& (3 : Int32))), .val (.long p3), .second, .val (.long p4), .second, .val (.ref b242), .val (.ref b253), .val (.ref b242), .unset, .unset] [(.ref b242), (.ref b242)]))
              have F307 : Exa Z T258.heap b242 "com/example/epoch/epoch/protocol/record/TimestampedOffset" := ((q248.ext E253).keep K258)
              have ne308 : b242 ≠ b253 := Nat.ne_of_lt (Nat.lt_of_lt_of_le (Nat.lt_of_lt_of_le A242.lt K247.1) (Nat.le_of_eq g253.symm))
              have F309 : Fld Z T258.heap b242 "com/example/epoch/epoch/protocol/record/TimestampedOffset" "timestamp" "J" (.long p1) := ((q249.ext E253).keep K258 (ninS ne308 nin0))
              have F310 : Fld Z T258.heap b242 "com/example/epoch/epoch/protocol/record/TimestampedOffset" "offset" "J" (.long p2) := ((q250.ext E253).keep K258 (ninS ne308 nin0))
              obtain ⟨cq306, kq306, q306a, q306b, q306c⟩ := isOf hZ rfl F307
              obtain ⟨_, _, ⟨T306, L306, k306, n306⟩, -, X306, ⟨Lc306, hQ306, l306, y306, z306⟩, st306⟩ := X258.virtualBack hx (y := (⟨"com/example/epoch/epoch/protocol/record/TimestampedOffset", "equals", "(Ljava/lang/Object;)Z"⟩ : MethodName)) (z := (⟨"com/example/epoch/epoch/protocol/record/TimestampedOffset", "equals", "(Ljava/lang/Object;)Z"⟩ : MethodName)) hown (mvT hZ (hw _ (List.mem_of_getElem? (i := 13) rfl))) (mvT hZ (hw _ (List.mem_of_getElem? (i := 14) rfl))) (notFace_of_selects (args := #[]) (mvT hZ (hw _ (List.mem_of_getElem? (i := 16) rfl)))) (mvT hZ (hw _ (List.mem_of_getElem? (i := 16) rfl))) (mvT hZ (hw _ (List.mem_of_getElem? (i := 15) rfl))) (by decide) (backOf (W := 0) (own_rm_eqA l Z a0 hw [] b242 b242 p1 p2 p1 p2 T258.heap n0 Zs263 F307 F309 F310 F309 F310) hZ (hw _ (List.mem_of_getElem? (i := 17) rfl)) (hw _ (List.mem_of_getElem? (i := 2) rfl)) (by decide) (by decide)) q306a q306c (g := (mkF m 217 #[.val (.long p1), .second, .val (.long p2), .second, .val (.long p3), .second, .val (.long p4), .second, .val (.int p5), .val (.int (p5 &&& (3 : Int32))), .val (.int ((XT.ushr p5 (2 : Int32)) &&& (3 : Int32))), .val (.long p3), .second, .val (.long p4), .second, .val (.ref b242), .val (.ref b253), .val (.ref b242), .unset, .unset] [(.ref b242), (.ref b242)])) rfl (by rw [hml]; rfl) (Steps.refl _) (argsL := [(.ref b242)]) (rest := []) (lenOf own_pd3 rfl) rfl (by show 2 * 0 + _ ≤ _; exact Nat.le_of_eq rfl) (hb hby at_217) (fun _ _ => ⟨rfl, rfl, (by decide : 2 + 0 ≤ _), (by decide : 4 + 0 ≤ _)⟩)
              dsimp only [Pt.U, Pt.locs, Pt.cells, Pt.slots] at X306 l306 y306 z306 st306 hQ306
              subst l306 y306 z306
              obtain ⟨N306q, rfl, eh306⟩ := hQ306
              have N311 := Fr.app N262 N306q
              refine own_tr st306 ?_
              show own_Go p e below s _ _ _ (T306.setTop (mkF m 220 #[.val (.long p1), .second, .val (.long p2), .second, .val (.long p3), .second, .val (.long p4), .second, .val (.int p5), .val (.int (p5 &&& (3 : Int32))), .val (.int ((XT.ushr p5 (2 : Int32)) &&& (3 : Int32))), .val (.long p3), .second, .val (.long p4), .second, .val (.ref b242), .val (.ref b253), .val (.ref b242), .unset, .unset] [(.int (if p1 = p1 then (if p2 = p2 then (1 : Int32) else 0) else 0))]))
              refine own_retN X306 hx hlk Bd.returns (t := .boolean) (z' := 1) (by simp) (by simp [nar]) (hb hby at_220) (by decide) (by decide) ?_
              rw [eh306]
              exact ⟨N311, rfl⟩
set_option maxRecDepth 65536 in
set_option maxHeartbeats 40000000 in
theorem comes_1 {Post : Tables → Env → Array Value → State → Outcome → State → Prop} (hpost : ∀ tb e args s v u, (limb_1_1.after args s (.returned v) u = true ∧ limb_1_2.after args s (.returned v) u = true ∧ True) → FrameEnd s (.returned v) u (Jvm.fieldLocs frame_1_writes args s ++ Jvm.arrayLocs frame_1_arrays args s ++ Jvm.staticLocs frame_1_statics s) 16 128 → Post tb e args s (.returned v) u) :
    ArmFor flags0 classFile x code maxLocals ret World_1 tables_1 room_1 Calls_1 rest_1 Pre_1 Post := by
  intro l hfl _ _ p e ha hc hk s m args below hf hA hF happ hP
  obtain ⟨hcalls, hrest, hpre⟩ := hP
  obtain ⟨-, -, -, hnamed, -, -, -, hat⟩ := (Spec.applies_iff hf).mp happ
  obtain ⟨hg, hn⟩ := and_e (Cond.before_iff.mp (show (Jvm.Cond.and given_1 narrow_1).before args s = true from hpre))
  obtain ⟨gg0, hg0⟩ := and_e hg
  obtain ⟨gg1, hg1⟩ := and_e hg0
  obtain ⟨gg2, hg2⟩ := and_e hg1
  obtain ⟨gg3, hg3⟩ := and_e hg2
  obtain ⟨gg4, hg4⟩ := and_e hg3
  obtain ⟨w0, w1, w2, w3, w4, rfl⟩ : ∃ w0 w1 w2 w3 w4 : Value, args = #[w0, w1, w2, w3, w4] := by
    have hs : args.size = 5 := by simpa [Cond.value, given_1] using gg0
    obtain ⟨L⟩ := args
    match L, hs with
    | [w0, w1, w2, w3, w4], _ => exact ⟨w0, w1, w2, w3, w4, rfl⟩
  have hw := fun d (hd : d ∈ tables_1) => atoms_spec (ws := Jvm.Cond.code x code maxLocals ret :: tables_1) hat d (List.mem_cons_of_mem _ hd)
  have hfit : Fit s := fun {y c} hc i hi => by
    obtain ⟨ha, rfl⟩ := Array.getElem?_eq_some_iff.mp hc
    have q := List.all_eq_true.mp ((Array.all_eq_true_iff_forall_mem.mp hF) _ (Array.getElem_mem ha)) i (List.mem_range.mpr hi)
    simpa [Array.getElem?_eq_getElem hi] using q
  obtain ⟨i0, ei0⟩ := isL_v gg1
  obtain rfl : w0 = (.long i0) := Option.some.inj ei0
  obtain ⟨i1, ei1⟩ := isL_v gg2
  obtain rfl : w1 = (.long i1) := Option.some.inj ei1
  obtain ⟨i2, ei2⟩ := isL_v gg3
  obtain rfl : w2 = (.long i2) := Option.some.inj ei2
  obtain ⟨i3, ei3⟩ := isL_v gg4
  obtain rfl : w3 = (.long i3) := Option.some.inj ei3
  obtain ⟨i4, ei4⟩ := is_v hg4
  obtain rfl : w4 = (.int i4) := Option.some.inj ei4
  have hsets := (atoms_of jdkStatics_1 (rest_1_c_eq ▸ (show rest_1_c.before _ s = true from hrest))).1
  obtain ⟨a_cacheJ, e_cacheJ⟩ := arr_v (Cond.before_iff.mp (hsets _ (List.mem_of_getElem? (i := 2) rfl)))
  have S_cacheJ : Sta s s.heap "java/lang/Long$LongCache" "cache" "[Ljava/lang/Long;" (.ref a_cacheJ) := Sta.start e_cacheJ (Or.inl (hsets _ (List.mem_of_getElem? (i := 1) rfl)))
  have BxJ : own_BoxJ s a_cacheJ := own_boxJ e_cacheJ (hsets _ (List.mem_of_getElem? (i := 2) rfl)) (hsets _ (List.mem_of_getElem? (i := 4) rfl)) (hsets _ (List.mem_of_getElem? (i := 5) rfl))
  obtain ⟨n, o, h1, h2, h3, _, L, rfl, ⟨N, rfl⟩, hq⟩ := own_law l s _ hw tables_1 i0 i1 i2 i3 i4 a_cacheJ s.heap s.heap.size (Nat.le_refl _) (Old.start s) S_cacheJ BxJ p e ha hc hk s m _ below hf ((Spec.applies_iff_loose hf).mp happ).1 ⟨rfl, State.Warmed39.refl s, rfl⟩ trivial
  refine ⟨n, _, h1, h2, h3, hpost _ _ _ _ _ _ ⟨Cond.after_iff.mpr rfl, Cond.after_iff.mpr (eq_i res_at (Term.int_eval (1)) rfl), trivial⟩ ⟨hq.1, hq.2.1, (hq.2.2.sift fun y hy => Or.inr (N y hy)).mono (by decide) (by decide)⟩⟩
theorem main_1_1 : Claimed_1_1 := comes_1 fun _ _ _ _ _ _ h hF => ⟨h.1, hF⟩
theorem main_1_2 : Claimed_1_2 := comes_1 fun _ _ _ _ _ _ h hF => ⟨h.2.1, hF⟩
end Jvm.Pilot.@@N@@
namespace Jvm.Pilot.@@N@@
open Jvm Jvm.ClassFile Sem Op Lib Jvm.Free Jvm.Stand Jvm.Pilot.@@N@@.Jvm.D
/-! MADE BY PROGRAM (witnessworld.py) out of the Statement's table words and the real class files: 16 classes; the members and pool entries that the words name. The judged class is class 1, her method 1. -/
namespace start1
open Jvm.ClassFile
def u (s : String) : CpInfo := .utf8 (stringToUtf16 s)
/-- a pool by its gaps: so many unusable entries, then the entry; so many at the end -/
def gap : Nat → List CpInfo → List CpInfo
  | 0, r => r
  | n + 1, r => .unusable :: gap n r
def poolList (es : List (Nat × CpInfo)) (last : Nat) : List CpInfo := es.foldr (fun e r => gap e.1 (e.2 :: r)) (gap last [])
def pool (es : List (Nat × CpInfo)) (last : Nat) : Array CpInfo := ⟨poolList es last⟩
def fileOf (pool : Array CpInfo) (this : Nat) (attrs : Array Attribute := #[]) (ms : Array MethodInfo := #[]) (fl : Nat := 33) (sup : Nat := 0) (ifs : Array Nat := #[]) (fds : Array FieldInfo := #[]) : ClassFile where
  minorVersion := 0
  majorVersion := 65
  constantPool := pool
  accessFlags := fl
  thisClass := this
  superClass := sup
  interfaces := ifs
  fields := fds
  methods := ms
  attributes := attrs
def plain (name : String) (sup : Option ClassId) : Class where
  name := name
  kind := .ordinary
  loader := none
  accessFlags := 33
  super := sup
  interfaces := #[]
  cf := none
  fields := #[]
  methods := #[]
  instanceTypes := #[]
  staticTypes := #[]
  resolved := #[]
  callSites := []
  init := .initialized
  statics := none
  mirror := none

def pool0 : Array CpInfo := pool [(5, u "<init>"), (0, u "()V"), (1, .class_ 10), (1, u "java/lang/Object")] 113

def k0c0 : Code := { maxStack := 0, maxLocals := 1, code := object_method_1_code, exceptionTable := #[], attributes := #[] }
def k0m0 : Method := { name := "<init>", desc := "()V", sig := { parameters := [], returnType := none }, accessFlags := 1, code := some k0c0 }
/-- java/lang/Object -/
def k0 : Class := { plain "java/lang/Object" none with
  accessFlags := 33
  interfaces := #[]
  cf := some (fileOf pool0 8 #[] #[{ accessFlags := 1, nameIndex := 5, descriptorIndex := 6, attributes := #[] }] 33 0 #[] #[])
  fields := #[]
  methods := #[k0m0]
  instanceTypes := #[]
  staticTypes := #[]
  resolved := Array.replicate 124 none
  statics := none }

def pool1 : Array CpInfo := pool [(2, .class_ 4), (1, u "java/lang/Object"), (0, u "<init>"), (0, u "()V"), (0, .class_ 8), (0, u "com/example/epoch/epoch/protocol/record/TimestampedOffset"), (0, .methodref 7 10), (0, .nameAndType 5 11), (0, u "(JJ)V"), (0, .methodref 7 13), (0, .nameAndType 14 15), (0, u "equals"), (0, u "(Ljava/lang/Object;)Z"), (0, .methodref 17 18), (0, .class_ 19), (0, .nameAndType 20 21), (0, u "java/lang/Long"), (0, u "valueOf"), (0, u "(J)Ljava/lang/Long;"), (0, .class_ 23), (0, u "com/example/epoch/epoch/protocol/record/TimestampedOffsetEqualsPinLaw"), (2, u "law"), (0, u "(JJJJI)Z")] 3

def k1m0 : Method := { name := "<init>", desc := "()V", sig := { parameters := [], returnType := none }, accessFlags := 1, code := none }
def k1c1 : Code := { maxStack := 6, maxLocals := 20, code := code, exceptionTable := #[], attributes := #[] }
def k1m1 : Method := { name := "law", desc := "(JJJJI)Z", sig := { parameters := [.long, .long, .long, .long, .int], returnType := some .boolean }, accessFlags := 9, code := some k1c1 }
/-- com/example/epoch/epoch/protocol/record/TimestampedOffsetEqualsPinLaw -/
def k1 : Class := { plain "com/example/epoch/epoch/protocol/record/TimestampedOffsetEqualsPinLaw" (some 0) with
  accessFlags := 49
  interfaces := #[]
  cf := some (fileOf pool1 22 #[] #[{ accessFlags := 1, nameIndex := 5, descriptorIndex := 6, attributes := #[] }, { accessFlags := 9, nameIndex := 26, descriptorIndex := 27, attributes := #[] }] 49 2 #[] #[])
  fields := #[]
  methods := #[k1m0, k1m1]
  instanceTypes := #[]
  staticTypes := #[]
  resolved := Array.replicate 31 none
  statics := none }

def pool2 : Array CpInfo := pool [(1, .methodref 2 3), (0, .class_ 4), (0, .nameAndType 5 6), (0, u "java/lang/Object"), (0, u "<init>"), (0, u "()V"), (0, .fieldref 8 9), (0, .class_ 10), (0, .nameAndType 11 12), (0, u "com/example/epoch/epoch/protocol/record/TimestampedOffset"), (0, u "timestamp"), (0, u "J"), (0, .fieldref 8 14), (0, .nameAndType 15 12), (0, u "offset"), (10, u "(JJ)V"), (3, u "equals"), (0, u "(Ljava/lang/Object;)Z")] 21

def k2c0 : Code := { maxStack := 3, maxLocals := 5, code := prog_103_method_1_code, exceptionTable := #[], attributes := #[] }
def k2m0 : Method := { name := "<init>", desc := "(JJ)V", sig := { parameters := [.long, .long], returnType := none }, accessFlags := 1, code := some k2c0 }
def k2c1 : Code := { maxStack := 4, maxLocals := 3, code := prog_103_method_4_code, exceptionTable := #[], attributes := #[] }
def k2m1 : Method := { name := "equals", desc := "(Ljava/lang/Object;)Z", sig := { parameters := [(.object "java/lang/Object")], returnType := some .boolean }, accessFlags := 1, code := some k2c1 }
/-- com/example/epoch/epoch/protocol/record/TimestampedOffset -/
def k2 : Class := { plain "com/example/epoch/epoch/protocol/record/TimestampedOffset" (some 0) with
  accessFlags := 49
  interfaces := #[]
  cf := some (fileOf pool2 8 #[] #[{ accessFlags := 1, nameIndex := 5, descriptorIndex := 26, attributes := #[] }, { accessFlags := 1, nameIndex := 30, descriptorIndex := 31, attributes := #[] }] 49 2 #[] #[{ accessFlags := 18, nameIndex := 11, descriptorIndex := 12, attributes := #[] }, { accessFlags := 18, nameIndex := 15, descriptorIndex := 12, attributes := #[] }])
  fields := #[{ name := "timestamp", type := .long, accessFlags := 18, slot := 0, constantValue := 0 }, { name := "offset", type := .long, accessFlags := 18, slot := 1, constantValue := 0 }]
  methods := #[k2m0, k2m1]
  instanceTypes := #[.long, .long]
  staticTypes := #[]
  resolved := Array.replicate 53 none
  statics := none }

def pool3 : Array CpInfo := pool [(1, .class_ 2), (0, u "java/io/Serializable"), (0, .class_ 4), (0, u "java/lang/Object")] 2

/-- java/io/Serializable -/
def k3 : Class := { plain "java/io/Serializable" (some 0) with
  accessFlags := 1537
  interfaces := #[]
  cf := some (fileOf pool3 1 #[] #[] 1537 3 #[] #[])
  fields := #[]
  methods := #[]
  instanceTypes := #[]
  staticTypes := #[]
  resolved := Array.replicate 7 none
  statics := none }

def pool4 : Array CpInfo := pool [(1, .methodref 2 3), (0, .class_ 4), (0, .nameAndType 5 6), (0, u "java/lang/Object"), (0, u "<init>"), (0, u "()V"), (1, .class_ 10), (1, u "java/lang/Number"), (2, .class_ 14), (0, u "java/io/Serializable"), (0, u "serialVersionUID"), (0, u "J")] 20

def k4c0 : Code := { maxStack := 1, maxLocals := 1, code := jdk_18_method_1_code, exceptionTable := #[], attributes := #[] }
def k4m0 : Method := { name := "<init>", desc := "()V", sig := { parameters := [], returnType := none }, accessFlags := 1, code := some k4c0 }
/-- java/lang/Number -/
def k4 : Class := { plain "java/lang/Number" (some 0) with
  accessFlags := 1057
  interfaces := #[3]
  cf := some (fileOf pool4 8 #[] #[{ accessFlags := 1, nameIndex := 5, descriptorIndex := 6, attributes := #[] }] 1057 2 #[13] #[{ accessFlags := 26, nameIndex := 15, descriptorIndex := 16, attributes := #[] }])
  fields := #[{ name := "serialVersionUID", type := .long, accessFlags := 26, slot := 0, constantValue := 0 }]
  methods := #[k4m0]
  instanceTypes := #[]
  staticTypes := #[.long]
  resolved := Array.replicate 37 none
  statics := none }

def pool5 : Array CpInfo := pool [(1, .class_ 2), (0, u "java/lang/Comparable"), (0, .class_ 4), (0, u "java/lang/Object")] 7

/-- java/lang/Comparable -/
def k5 : Class := { plain "java/lang/Comparable" (some 0) with
  accessFlags := 1537
  interfaces := #[]
  cf := some (fileOf pool5 1 #[] #[] 1537 3 #[] #[])
  fields := #[]
  methods := #[]
  instanceTypes := #[]
  staticTypes := #[]
  resolved := Array.replicate 12 none
  statics := none }

def pool6 : Array CpInfo := pool [(1, .class_ 2), (0, u "java/lang/constant/Constable"), (0, .class_ 4), (0, u "java/lang/Object")] 6

/-- java/lang/constant/Constable -/
def k6 : Class := { plain "java/lang/constant/Constable" (some 0) with
  accessFlags := 1537
  interfaces := #[]
  cf := some (fileOf pool6 1 #[] #[] 1537 3 #[] #[])
  fields := #[]
  methods := #[]
  instanceTypes := #[]
  staticTypes := #[]
  resolved := Array.replicate 11 none
  statics := none }

def pool7 : Array CpInfo := pool [(1, .class_ 2), (0, u "java/lang/constant/ConstantDesc"), (0, .class_ 4), (0, u "java/lang/Object")] 32

/-- java/lang/constant/ConstantDesc -/
def k7 : Class := { plain "java/lang/constant/ConstantDesc" (some 0) with
  accessFlags := 1537
  interfaces := #[]
  cf := some (fileOf pool7 1 #[] #[] 1537 3 #[] #[])
  fields := #[]
  methods := #[]
  instanceTypes := #[]
  staticTypes := #[]
  resolved := Array.replicate 37 none
  statics := none }

def pool8 : Array CpInfo := pool [(1, .class_ 2), (0, u "java/lang/Long"), (55, .nameAndType 59 60), (0, u "<init>"), (0, u "()V"), (24, u "valueOf"), (143, u "(J)Ljava/lang/Long;"), (0, .long 18446744073709551488), (1, .long 127), (1, .fieldref 235 236), (0, .class_ 237), (0, .nameAndType 238 239), (0, u "java/lang/Long$LongCache"), (0, u "cache"), (0, u "[Ljava/lang/Long;"), (0, .methodref 1 241), (0, .nameAndType 59 242), (0, u "(J)V"), (27, .methodref 271 58), (0, .class_ 272), (0, u "java/lang/Number"), (0, .fieldref 1 274), (0, .nameAndType 275 276), (0, u "value"), (0, u "J"), (84, u "TYPE"), (0, u "Ljava/lang/Class;"), (0, .class_ 364), (0, u "java/lang/Comparable"), (0, .class_ 366), (0, u "java/lang/constant/Constable"), (0, .class_ 368), (0, u "java/lang/constant/ConstantDesc"), (0, u "MIN_VALUE"), (1, u "MAX_VALUE"), (4, u "SIZE"), (0, u "I"), (1, u "BYTES"), (1, u "serialVersionUID")] 142

def k8c0 : Code := { maxStack := 4, maxLocals := 3, code := jdk_35_method_24_code, exceptionTable := #[], attributes := #[] }
def k8m0 : Method := { name := "valueOf", desc := "(J)Ljava/lang/Long;", sig := { parameters := [.long], returnType := some (.object "java/lang/Long") }, accessFlags := 9, code := some k8c0 }
def k8c1 : Code := { maxStack := 3, maxLocals := 3, code := jdk_35_method_26_code, exceptionTable := #[], attributes := #[] }
def k8m1 : Method := { name := "<init>", desc := "(J)V", sig := { parameters := [.long], returnType := none }, accessFlags := 1, code := some k8c1 }
/-- java/lang/Long -/
def k8 : Class := { plain "java/lang/Long" (some 4) with
  accessFlags := 49
  interfaces := #[5, 6, 7]
  cf := some (fileOf pool8 1 #[.nestMembers #[235]] #[{ accessFlags := 9, nameIndex := 85, descriptorIndex := 229, attributes := #[] }, { accessFlags := 1, nameIndex := 59, descriptorIndex := 242, attributes := #[] }] 49 271 #[363, 365, 367] #[{ accessFlags := 25, nameIndex := 369, descriptorIndex := 276, attributes := #[] }, { accessFlags := 25, nameIndex := 371, descriptorIndex := 276, attributes := #[] }, { accessFlags := 25, nameIndex := 361, descriptorIndex := 362, attributes := #[] }, { accessFlags := 18, nameIndex := 275, descriptorIndex := 276, attributes := #[] }, { accessFlags := 25, nameIndex := 376, descriptorIndex := 377, attributes := #[] }, { accessFlags := 25, nameIndex := 379, descriptorIndex := 377, attributes := #[] }, { accessFlags := 26, nameIndex := 381, descriptorIndex := 276, attributes := #[] }])
  fields := #[{ name := "MIN_VALUE", type := .long, accessFlags := 25, slot := 0, constantValue := 0 }, { name := "MAX_VALUE", type := .long, accessFlags := 25, slot := 1, constantValue := 0 }, { name := "TYPE", type := (.object "java/lang/Class"), accessFlags := 25, slot := 2, constantValue := 0 }, { name := "value", type := .long, accessFlags := 18, slot := 0, constantValue := 0 }, { name := "SIZE", type := .int, accessFlags := 25, slot := 3, constantValue := 0 }, { name := "BYTES", type := .int, accessFlags := 25, slot := 4, constantValue := 0 }, { name := "serialVersionUID", type := .long, accessFlags := 26, slot := 5, constantValue := 0 }]
  methods := #[k8m0, k8m1]
  instanceTypes := #[.long]
  staticTypes := #[.long, .long, (.object "java/lang/Class"), .int, .int, .long]
  resolved := Array.replicate 524 none
  statics := none }

def pool9 : Array CpInfo := pool [(2, .class_ 4), (1, u "java/lang/Object"), (0, u "<init>"), (0, u "()V"), (0, .class_ 8), (0, u "java/lang/Long"), (7, .class_ 18), (1, u "java/lang/Long$LongCache"), (0, u "$assertionsDisabled"), (0, u "Z"), (8, u "archivedCache"), (0, u "[Ljava/lang/Long;"), (7, u "cache")] 24

def k9m0 : Method := { name := "<init>", desc := "()V", sig := { parameters := [], returnType := none }, accessFlags := 2, code := none }
/-- java/lang/Long$LongCache -/
def k9 : Class := { plain "java/lang/Long$LongCache" (some 0) with
  accessFlags := 48
  interfaces := #[]
  cf := some (fileOf pool9 16 #[.nestHost 7] #[{ accessFlags := 2, nameIndex := 5, descriptorIndex := 6, attributes := #[] }] 48 2 #[] #[{ accessFlags := 24, nameIndex := 38, descriptorIndex := 30, attributes := #[] }, { accessFlags := 8, nameIndex := 29, descriptorIndex := 30, attributes := #[] }, { accessFlags := 4120, nameIndex := 19, descriptorIndex := 20, attributes := #[] }])
  fields := #[{ name := "cache", type := (.array (.object "java/lang/Long")), accessFlags := 24, slot := 0, constantValue := 0 }, { name := "archivedCache", type := (.array (.object "java/lang/Long")), accessFlags := 8, slot := 1, constantValue := 0 }, { name := "$assertionsDisabled", type := .boolean, accessFlags := 4120, slot := 2, constantValue := 0 }]
  methods := #[k9m0]
  instanceTypes := #[]
  staticTypes := #[(.array (.object "java/lang/Long")), (.array (.object "java/lang/Long")), .boolean]
  resolved := Array.replicate 63 none
  statics := some 0 }

def pool10 : Array CpInfo := pool [(1, u "java/lang/Cloneable"), (0, .class_ 1), (0, u "java/lang/Object"), (0, .class_ 3)] 3

/-- java/lang/Cloneable -/
def k10 : Class := { plain "java/lang/Cloneable" (some 0) with
  accessFlags := 1537
  interfaces := #[]
  cf := some (fileOf pool10 2 #[] #[] 1537 4 #[] #[])
  fields := #[]
  methods := #[]
  instanceTypes := #[]
  staticTypes := #[]
  resolved := Array.replicate 8 none
  statics := none }

/-- the primitive byte -/
def k11 : Class := { plain "byte" none with kind := .primitive 'B', accessFlags := 0x411 }
/-- [B -/
def k12 : Class := { plain "[B" (some 0) with kind := .array 11 .byte, interfaces := #[10, 3], accessFlags := 1041 }

/-- the primitive int -/
def k13 : Class := { plain "int" none with kind := .primitive 'I', accessFlags := 0x411 }
/-- [I -/
def k14 : Class := { plain "[I" (some 0) with kind := .array 13 .int, interfaces := #[10, 3], accessFlags := 1041 }

/-- [Ljava/lang/Long; -/
def k15 : Class := { plain "[Ljava/lang/Long;" (some 0) with kind := .array 8 (.object "java/lang/Long"), interfaces := #[10, 3], accessFlags := 1041 }

def heap : Heap := #[{ cls := 9, slots := #[.ref 1, .null, .int 0], vm := .statics 9 },
  { cls := 15, slots := #[.ref 2, .ref 3, .ref 4, .ref 5, .ref 6, .ref 7, .ref 8, .ref 9, .ref 10, .ref 11, .ref 12, .ref 13, .ref 14, .ref 15, .ref 16, .ref 17, .ref 18, .ref 19, .ref 20, .ref 21, .ref 22, .ref 23, .ref 24, .ref 25, .ref 26, .ref 27, .ref 28, .ref 29, .ref 30, .ref 31, .ref 32, .ref 33, .ref 34, .ref 35, .ref 36, .ref 37, .ref 38, .ref 39, .ref 40, .ref 41, .ref 42, .ref 43, .ref 44, .ref 45, .ref 46, .ref 47, .ref 48, .ref 49, .ref 50, .ref 51, .ref 52, .ref 53, .ref 54, .ref 55, .ref 56, .ref 57, .ref 58, .ref 59, .ref 60, .ref 61, .ref 62, .ref 63, .ref 64, .ref 65, .ref 66, .ref 67, .ref 68, .ref 69, .ref 70, .ref 71, .ref 72, .ref 73, .ref 74, .ref 75, .ref 76, .ref 77, .ref 78, .ref 79, .ref 80, .ref 81, .ref 82, .ref 83, .ref 84, .ref 85, .ref 86, .ref 87, .ref 88, .ref 89, .ref 90, .ref 91, .ref 92, .ref 93, .ref 94, .ref 95, .ref 96, .ref 97, .ref 98, .ref 99, .ref 100, .ref 101, .ref 102, .ref 103, .ref 104, .ref 105, .ref 106, .ref 107, .ref 108, .ref 109, .ref 110, .ref 111, .ref 112, .ref 113, .ref 114, .ref 115, .ref 116, .ref 117, .ref 118, .ref 119, .ref 120, .ref 121, .ref 122, .ref 123, .ref 124, .ref 125, .ref 126, .ref 127, .ref 128, .ref 129, .ref 130, .ref 131, .ref 132, .ref 133, .ref 134, .ref 135, .ref 136, .ref 137, .ref 138, .ref 139, .ref 140, .ref 141, .ref 142, .ref 143, .ref 144, .ref 145, .ref 146, .ref 147, .ref 148, .ref 149, .ref 150, .ref 151, .ref 152, .ref 153, .ref 154, .ref 155, .ref 156, .ref 157, .ref 158, .ref 159, .ref 160, .ref 161, .ref 162, .ref 163, .ref 164, .ref 165, .ref 166, .ref 167, .ref 168, .ref 169, .ref 170, .ref 171, .ref 172, .ref 173, .ref 174, .ref 175, .ref 176, .ref 177, .ref 178, .ref 179, .ref 180, .ref 181, .ref 182, .ref 183, .ref 184, .ref 185, .ref 186, .ref 187, .ref 188, .ref 189, .ref 190, .ref 191, .ref 192, .ref 193, .ref 194, .ref 195, .ref 196, .ref 197, .ref 198, .ref 199, .ref 200, .ref 201, .ref 202, .ref 203, .ref 204, .ref 205, .ref 206, .ref 207, .ref 208, .ref 209, .ref 210, .ref 211, .ref 212, .ref 213, .ref 214, .ref 215, .ref 216, .ref 217, .ref 218, .ref 219, .ref 220, .ref 221, .ref 222, .ref 223, .ref 224, .ref 225, .ref 226, .ref 227, .ref 228, .ref 229, .ref 230, .ref 231, .ref 232, .ref 233, .ref 234, .ref 235, .ref 236, .ref 237, .ref 238, .ref 239, .ref 240, .ref 241, .ref 242, .ref 243, .ref 244, .ref 245, .ref 246, .ref 247, .ref 248, .ref 249, .ref 250, .ref 251, .ref 252, .ref 253, .ref 254, .ref 255, .ref 256, .ref 257], vm := .none },
  { cls := 8, slots := #[.long (-128)], vm := .none },
  { cls := 8, slots := #[.long (-127)], vm := .none },
  { cls := 8, slots := #[.long (-126)], vm := .none },
  { cls := 8, slots := #[.long (-125)], vm := .none },
  { cls := 8, slots := #[.long (-124)], vm := .none },
  { cls := 8, slots := #[.long (-123)], vm := .none },
  { cls := 8, slots := #[.long (-122)], vm := .none },
  { cls := 8, slots := #[.long (-121)], vm := .none },
  { cls := 8, slots := #[.long (-120)], vm := .none },
  { cls := 8, slots := #[.long (-119)], vm := .none },
  { cls := 8, slots := #[.long (-118)], vm := .none },
  { cls := 8, slots := #[.long (-117)], vm := .none },
  { cls := 8, slots := #[.long (-116)], vm := .none },
  { cls := 8, slots := #[.long (-115)], vm := .none },
  { cls := 8, slots := #[.long (-114)], vm := .none },
  { cls := 8, slots := #[.long (-113)], vm := .none },
  { cls := 8, slots := #[.long (-112)], vm := .none },
  { cls := 8, slots := #[.long (-111)], vm := .none },
  { cls := 8, slots := #[.long (-110)], vm := .none },
  { cls := 8, slots := #[.long (-109)], vm := .none },
  { cls := 8, slots := #[.long (-108)], vm := .none },
  { cls := 8, slots := #[.long (-107)], vm := .none },
  { cls := 8, slots := #[.long (-106)], vm := .none },
  { cls := 8, slots := #[.long (-105)], vm := .none },
  { cls := 8, slots := #[.long (-104)], vm := .none },
  { cls := 8, slots := #[.long (-103)], vm := .none },
  { cls := 8, slots := #[.long (-102)], vm := .none },
  { cls := 8, slots := #[.long (-101)], vm := .none },
  { cls := 8, slots := #[.long (-100)], vm := .none },
  { cls := 8, slots := #[.long (-99)], vm := .none },
  { cls := 8, slots := #[.long (-98)], vm := .none },
  { cls := 8, slots := #[.long (-97)], vm := .none },
  { cls := 8, slots := #[.long (-96)], vm := .none },
  { cls := 8, slots := #[.long (-95)], vm := .none },
  { cls := 8, slots := #[.long (-94)], vm := .none },
  { cls := 8, slots := #[.long (-93)], vm := .none },
  { cls := 8, slots := #[.long (-92)], vm := .none },
  { cls := 8, slots := #[.long (-91)], vm := .none },
  { cls := 8, slots := #[.long (-90)], vm := .none },
  { cls := 8, slots := #[.long (-89)], vm := .none },
  { cls := 8, slots := #[.long (-88)], vm := .none },
  { cls := 8, slots := #[.long (-87)], vm := .none },
  { cls := 8, slots := #[.long (-86)], vm := .none },
  { cls := 8, slots := #[.long (-85)], vm := .none },
  { cls := 8, slots := #[.long (-84)], vm := .none },
  { cls := 8, slots := #[.long (-83)], vm := .none },
  { cls := 8, slots := #[.long (-82)], vm := .none },
  { cls := 8, slots := #[.long (-81)], vm := .none },
  { cls := 8, slots := #[.long (-80)], vm := .none },
  { cls := 8, slots := #[.long (-79)], vm := .none },
  { cls := 8, slots := #[.long (-78)], vm := .none },
  { cls := 8, slots := #[.long (-77)], vm := .none },
  { cls := 8, slots := #[.long (-76)], vm := .none },
  { cls := 8, slots := #[.long (-75)], vm := .none },
  { cls := 8, slots := #[.long (-74)], vm := .none },
  { cls := 8, slots := #[.long (-73)], vm := .none },
  { cls := 8, slots := #[.long (-72)], vm := .none },
  { cls := 8, slots := #[.long (-71)], vm := .none },
  { cls := 8, slots := #[.long (-70)], vm := .none },
  { cls := 8, slots := #[.long (-69)], vm := .none },
  { cls := 8, slots := #[.long (-68)], vm := .none },
  { cls := 8, slots := #[.long (-67)], vm := .none },
  { cls := 8, slots := #[.long (-66)], vm := .none },
  { cls := 8, slots := #[.long (-65)], vm := .none },
  { cls := 8, slots := #[.long (-64)], vm := .none },
  { cls := 8, slots := #[.long (-63)], vm := .none },
  { cls := 8, slots := #[.long (-62)], vm := .none },
  { cls := 8, slots := #[.long (-61)], vm := .none },
  { cls := 8, slots := #[.long (-60)], vm := .none },
  { cls := 8, slots := #[.long (-59)], vm := .none },
  { cls := 8, slots := #[.long (-58)], vm := .none },
  { cls := 8, slots := #[.long (-57)], vm := .none },
  { cls := 8, slots := #[.long (-56)], vm := .none },
  { cls := 8, slots := #[.long (-55)], vm := .none },
  { cls := 8, slots := #[.long (-54)], vm := .none },
  { cls := 8, slots := #[.long (-53)], vm := .none },
  { cls := 8, slots := #[.long (-52)], vm := .none },
  { cls := 8, slots := #[.long (-51)], vm := .none },
  { cls := 8, slots := #[.long (-50)], vm := .none },
  { cls := 8, slots := #[.long (-49)], vm := .none },
  { cls := 8, slots := #[.long (-48)], vm := .none },
  { cls := 8, slots := #[.long (-47)], vm := .none },
  { cls := 8, slots := #[.long (-46)], vm := .none },
  { cls := 8, slots := #[.long (-45)], vm := .none },
  { cls := 8, slots := #[.long (-44)], vm := .none },
  { cls := 8, slots := #[.long (-43)], vm := .none },
  { cls := 8, slots := #[.long (-42)], vm := .none },
  { cls := 8, slots := #[.long (-41)], vm := .none },
  { cls := 8, slots := #[.long (-40)], vm := .none },
  { cls := 8, slots := #[.long (-39)], vm := .none },
  { cls := 8, slots := #[.long (-38)], vm := .none },
  { cls := 8, slots := #[.long (-37)], vm := .none },
  { cls := 8, slots := #[.long (-36)], vm := .none },
  { cls := 8, slots := #[.long (-35)], vm := .none },
  { cls := 8, slots := #[.long (-34)], vm := .none },
  { cls := 8, slots := #[.long (-33)], vm := .none },
  { cls := 8, slots := #[.long (-32)], vm := .none },
  { cls := 8, slots := #[.long (-31)], vm := .none },
  { cls := 8, slots := #[.long (-30)], vm := .none },
  { cls := 8, slots := #[.long (-29)], vm := .none },
  { cls := 8, slots := #[.long (-28)], vm := .none },
  { cls := 8, slots := #[.long (-27)], vm := .none },
  { cls := 8, slots := #[.long (-26)], vm := .none },
  { cls := 8, slots := #[.long (-25)], vm := .none },
  { cls := 8, slots := #[.long (-24)], vm := .none },
  { cls := 8, slots := #[.long (-23)], vm := .none },
  { cls := 8, slots := #[.long (-22)], vm := .none },
  { cls := 8, slots := #[.long (-21)], vm := .none },
  { cls := 8, slots := #[.long (-20)], vm := .none },
  { cls := 8, slots := #[.long (-19)], vm := .none },
  { cls := 8, slots := #[.long (-18)], vm := .none },
  { cls := 8, slots := #[.long (-17)], vm := .none },
  { cls := 8, slots := #[.long (-16)], vm := .none },
  { cls := 8, slots := #[.long (-15)], vm := .none },
  { cls := 8, slots := #[.long (-14)], vm := .none },
  { cls := 8, slots := #[.long (-13)], vm := .none },
  { cls := 8, slots := #[.long (-12)], vm := .none },
  { cls := 8, slots := #[.long (-11)], vm := .none },
  { cls := 8, slots := #[.long (-10)], vm := .none },
  { cls := 8, slots := #[.long (-9)], vm := .none },
  { cls := 8, slots := #[.long (-8)], vm := .none },
  { cls := 8, slots := #[.long (-7)], vm := .none },
  { cls := 8, slots := #[.long (-6)], vm := .none },
  { cls := 8, slots := #[.long (-5)], vm := .none },
  { cls := 8, slots := #[.long (-4)], vm := .none },
  { cls := 8, slots := #[.long (-3)], vm := .none },
  { cls := 8, slots := #[.long (-2)], vm := .none },
  { cls := 8, slots := #[.long (-1)], vm := .none },
  { cls := 8, slots := #[.long 0], vm := .none },
  { cls := 8, slots := #[.long 1], vm := .none },
  { cls := 8, slots := #[.long 2], vm := .none },
  { cls := 8, slots := #[.long 3], vm := .none },
  { cls := 8, slots := #[.long 4], vm := .none },
  { cls := 8, slots := #[.long 5], vm := .none },
  { cls := 8, slots := #[.long 6], vm := .none },
  { cls := 8, slots := #[.long 7], vm := .none },
  { cls := 8, slots := #[.long 8], vm := .none },
  { cls := 8, slots := #[.long 9], vm := .none },
  { cls := 8, slots := #[.long 10], vm := .none },
  { cls := 8, slots := #[.long 11], vm := .none },
  { cls := 8, slots := #[.long 12], vm := .none },
  { cls := 8, slots := #[.long 13], vm := .none },
  { cls := 8, slots := #[.long 14], vm := .none },
  { cls := 8, slots := #[.long 15], vm := .none },
  { cls := 8, slots := #[.long 16], vm := .none },
  { cls := 8, slots := #[.long 17], vm := .none },
  { cls := 8, slots := #[.long 18], vm := .none },
  { cls := 8, slots := #[.long 19], vm := .none },
  { cls := 8, slots := #[.long 20], vm := .none },
  { cls := 8, slots := #[.long 21], vm := .none },
  { cls := 8, slots := #[.long 22], vm := .none },
  { cls := 8, slots := #[.long 23], vm := .none },
  { cls := 8, slots := #[.long 24], vm := .none },
  { cls := 8, slots := #[.long 25], vm := .none },
  { cls := 8, slots := #[.long 26], vm := .none },
  { cls := 8, slots := #[.long 27], vm := .none },
  { cls := 8, slots := #[.long 28], vm := .none },
  { cls := 8, slots := #[.long 29], vm := .none },
  { cls := 8, slots := #[.long 30], vm := .none },
  { cls := 8, slots := #[.long 31], vm := .none },
  { cls := 8, slots := #[.long 32], vm := .none },
  { cls := 8, slots := #[.long 33], vm := .none },
  { cls := 8, slots := #[.long 34], vm := .none },
  { cls := 8, slots := #[.long 35], vm := .none },
  { cls := 8, slots := #[.long 36], vm := .none },
  { cls := 8, slots := #[.long 37], vm := .none },
  { cls := 8, slots := #[.long 38], vm := .none },
  { cls := 8, slots := #[.long 39], vm := .none },
  { cls := 8, slots := #[.long 40], vm := .none },
  { cls := 8, slots := #[.long 41], vm := .none },
  { cls := 8, slots := #[.long 42], vm := .none },
  { cls := 8, slots := #[.long 43], vm := .none },
  { cls := 8, slots := #[.long 44], vm := .none },
  { cls := 8, slots := #[.long 45], vm := .none },
  { cls := 8, slots := #[.long 46], vm := .none },
  { cls := 8, slots := #[.long 47], vm := .none },
  { cls := 8, slots := #[.long 48], vm := .none },
  { cls := 8, slots := #[.long 49], vm := .none },
  { cls := 8, slots := #[.long 50], vm := .none },
  { cls := 8, slots := #[.long 51], vm := .none },
  { cls := 8, slots := #[.long 52], vm := .none },
  { cls := 8, slots := #[.long 53], vm := .none },
  { cls := 8, slots := #[.long 54], vm := .none },
  { cls := 8, slots := #[.long 55], vm := .none },
  { cls := 8, slots := #[.long 56], vm := .none },
  { cls := 8, slots := #[.long 57], vm := .none },
  { cls := 8, slots := #[.long 58], vm := .none },
  { cls := 8, slots := #[.long 59], vm := .none },
  { cls := 8, slots := #[.long 60], vm := .none },
  { cls := 8, slots := #[.long 61], vm := .none },
  { cls := 8, slots := #[.long 62], vm := .none },
  { cls := 8, slots := #[.long 63], vm := .none },
  { cls := 8, slots := #[.long 64], vm := .none },
  { cls := 8, slots := #[.long 65], vm := .none },
  { cls := 8, slots := #[.long 66], vm := .none },
  { cls := 8, slots := #[.long 67], vm := .none },
  { cls := 8, slots := #[.long 68], vm := .none },
  { cls := 8, slots := #[.long 69], vm := .none },
  { cls := 8, slots := #[.long 70], vm := .none },
  { cls := 8, slots := #[.long 71], vm := .none },
  { cls := 8, slots := #[.long 72], vm := .none },
  { cls := 8, slots := #[.long 73], vm := .none },
  { cls := 8, slots := #[.long 74], vm := .none },
  { cls := 8, slots := #[.long 75], vm := .none },
  { cls := 8, slots := #[.long 76], vm := .none },
  { cls := 8, slots := #[.long 77], vm := .none },
  { cls := 8, slots := #[.long 78], vm := .none },
  { cls := 8, slots := #[.long 79], vm := .none },
  { cls := 8, slots := #[.long 80], vm := .none },
  { cls := 8, slots := #[.long 81], vm := .none },
  { cls := 8, slots := #[.long 82], vm := .none },
  { cls := 8, slots := #[.long 83], vm := .none },
  { cls := 8, slots := #[.long 84], vm := .none },
  { cls := 8, slots := #[.long 85], vm := .none },
  { cls := 8, slots := #[.long 86], vm := .none },
  { cls := 8, slots := #[.long 87], vm := .none },
  { cls := 8, slots := #[.long 88], vm := .none },
  { cls := 8, slots := #[.long 89], vm := .none },
  { cls := 8, slots := #[.long 90], vm := .none },
  { cls := 8, slots := #[.long 91], vm := .none },
  { cls := 8, slots := #[.long 92], vm := .none },
  { cls := 8, slots := #[.long 93], vm := .none },
  { cls := 8, slots := #[.long 94], vm := .none },
  { cls := 8, slots := #[.long 95], vm := .none },
  { cls := 8, slots := #[.long 96], vm := .none },
  { cls := 8, slots := #[.long 97], vm := .none },
  { cls := 8, slots := #[.long 98], vm := .none },
  { cls := 8, slots := #[.long 99], vm := .none },
  { cls := 8, slots := #[.long 100], vm := .none },
  { cls := 8, slots := #[.long 101], vm := .none },
  { cls := 8, slots := #[.long 102], vm := .none },
  { cls := 8, slots := #[.long 103], vm := .none },
  { cls := 8, slots := #[.long 104], vm := .none },
  { cls := 8, slots := #[.long 105], vm := .none },
  { cls := 8, slots := #[.long 106], vm := .none },
  { cls := 8, slots := #[.long 107], vm := .none },
  { cls := 8, slots := #[.long 108], vm := .none },
  { cls := 8, slots := #[.long 109], vm := .none },
  { cls := 8, slots := #[.long 110], vm := .none },
  { cls := 8, slots := #[.long 111], vm := .none },
  { cls := 8, slots := #[.long 112], vm := .none },
  { cls := 8, slots := #[.long 113], vm := .none },
  { cls := 8, slots := #[.long 114], vm := .none },
  { cls := 8, slots := #[.long 115], vm := .none },
  { cls := 8, slots := #[.long 116], vm := .none },
  { cls := 8, slots := #[.long 117], vm := .none },
  { cls := 8, slots := #[.long 118], vm := .none },
  { cls := 8, slots := #[.long 119], vm := .none },
  { cls := 8, slots := #[.long 120], vm := .none },
  { cls := 8, slots := #[.long 121], vm := .none },
  { cls := 8, slots := #[.long 122], vm := .none },
  { cls := 8, slots := #[.long 123], vm := .none },
  { cls := 8, slots := #[.long 124], vm := .none },
  { cls := 8, slots := #[.long 125], vm := .none },
  { cls := 8, slots := #[.long 126], vm := .none },
  { cls := 8, slots := #[.long 127], vm := .none }]
def classes : Array Class := #[k0, k1, k2, k3, k4, k5, k6, k7, k8, k9, k10, k11, k12, k13, k14, k15]
def interned : List (Array UInt16 × Addr) := []
def slotsUsed : Nat := 515
def theMethod : MethodId := ⟨1, 1⟩
def args0 : Array Value := #[.long 5, .long 6, .long 7, .long 8, .int 8]
def aboutOver (below : List Frame) : State where
  vm := { classes := classes, interned := interned.toArray }
  heap := heap
  slotsUsed := slotsUsed
  threads := #[{ frames := .invoking theMethod args0 :: below }]
def below0 : List Frame := [.native { method := ⟨0, 0⟩, args := #[] }]
def about1 : State := aboutOver below0
def p0 : Program := .bare "" "" ""
def e0 : Env := launch0.env 0 0 0
theorem w_frames : about1.frames = Frame.invoking theMethod args0 :: below0 := rfl
set_option maxRecDepth 65536 in
theorem w_args : argsFit about1.vm theMethod args0 = true := by decide +kernel
set_option maxRecDepth 65536 in
theorem w_heap : heapFits about1 = true := by decide +kernel
set_option maxRecDepth 65536 in
theorem w_runnable : about1.curStatus? = some .runnable := by decide +kernel
set_option maxRecDepth 65536 in
theorem w_alone : about1.alone = true := by decide +kernel
set_option maxRecDepth 65536 in
theorem w_named : about1.methodNamed? x = some theMethod := by decide +kernel
set_option maxRecDepth 65536 in
theorem w_hears : about1.hears theMethod below0 = true := by decide +kernel
set_option maxRecDepth 65536 in
theorem w_ripe : about1.ripe theMethod args0 below0 = true := by decide +kernel
theorem w_running : about1.status = .running := rfl
set_option maxRecDepth 65536 in
theorem w_room : about1.hasRoom e0.platform room_1 = true :=
  launch0.hasRoom_least _ room_1 (by decide +kernel) (by decide +kernel) (by decide +kernel) (by decide +kernel) (by decide +kernel) (by decide +kernel)
theorem allAtoms_all (ts : List Jvm.Cond) (a : Array Jvm.Value) (st : Jvm.State) : (allAtoms ts).before a st = ts.all (fun c => c.before a st) := by
  induction ts with
  | nil => rfl
  | cons c t ih =>
    show (Jvm.Cond.and c (allAtoms t)).before a st = _
    rw [Jvm.Cond.before_and, ih, List.all_cons]
def words1 : List Jvm.Cond := Jvm.Cond.code x code maxLocals ret :: tables_1
/-- a 'code' word, met by the world's own term for the bytes: nothing is compared byte by byte -/
theorem code_word {y : MethodName} {bytes : ByteArray} {mx : Nat} {rt : Option FieldType} {a : Array Value} {s : State} {m : MethodId} {meth : Method} {c : Code} (h1 : s.methodNamed? y = some m) (h2 : s.vm.method? m = some meth) (h3 : meth.code = some c) (h4 : c.code = bytes)
    (h5 : (c.maxLocals == mx && c.exceptionTable.isEmpty && decide (c.maxStack ≤ mostOperands) && decide (meth.sig.returnType = rt) && !meth.locks && decide (parseMethodDescriptor y.desc = some meth.sig)) = true) : (Jvm.Cond.code y bytes mx rt).before a s = true := by
  simp only [Bool.and_eq_true, beq_iff_eq, Bool.not_eq_true', decide_eq_true_eq] at h5
  obtain ⟨⟨⟨⟨⟨g1, g2⟩, g3⟩, g4⟩, g5⟩, g6⟩ := h5
  simp [Cond.before, Cond.holds, Cond.value, h1, h2, h3, h4, g1, g2, g3, g4, g5, g6]
def isCode : Jvm.Cond → Bool
  | .code _ _ _ _ => true
  | _ => false
theorem all_split {L : List Jvm.Cond} {P : Jvm.Cond → Bool} (h1 : L.all (fun c => isCode c || P c) = true) (h2 : ∀ c ∈ L.filter isCode, P c = true) : L.all P = true := by
  refine List.all_eq_true.mpr fun c hc => ?_
  have h := List.all_eq_true.mp h1 c hc
  rcases Bool.eq_false_or_eq_true (isCode c) with hi | hi
  · exact h2 c (List.mem_filter.mpr ⟨hc, hi⟩)
  · simpa [hi] using h
set_option maxRecDepth 65536 in
theorem w_c0 : (Jvm.Cond.code x code maxLocals ret).before args0 about1 = true := code_word (m := ⟨1, 1⟩) (meth := k1m1) (c := k1c1) (by decide +kernel) rfl rfl rfl (by decide +kernel)
set_option maxRecDepth 65536 in
theorem w_c1 : (Jvm.Cond.code ({ cls := "com/example/epoch/epoch/protocol/record/TimestampedOffset", name := "<init>", desc := "(JJ)V" } : Jvm.MethodName) prog_103_method_1_code (5 : Nat) (Option.none : Option Jvm.ClassFile.FieldType)).before args0 about1 = true := code_word (m := ⟨2, 0⟩) (meth := k2m0) (c := k2c0) (by decide +kernel) rfl rfl rfl (by decide +kernel)
set_option maxRecDepth 65536 in
theorem w_c2 : (Jvm.Cond.code ({ cls := "java/lang/Object", name := "<init>", desc := "()V" } : Jvm.MethodName) object_method_1_code (1 : Nat) (Option.none : Option Jvm.ClassFile.FieldType)).before args0 about1 = true := code_word (m := ⟨0, 0⟩) (meth := k0m0) (c := k0c0) (by decide +kernel) rfl rfl rfl (by decide +kernel)
set_option maxRecDepth 65536 in
theorem w_c3 : (Jvm.Cond.code ({ cls := "com/example/epoch/epoch/protocol/record/TimestampedOffset", name := "equals", desc := "(Ljava/lang/Object;)Z" } : Jvm.MethodName) prog_103_method_4_code (3 : Nat) (Option.some Jvm.ClassFile.FieldType.boolean)).before args0 about1 = true := code_word (m := ⟨2, 1⟩) (meth := k2m1) (c := k2c1) (by decide +kernel) rfl rfl rfl (by decide +kernel)
set_option maxRecDepth 65536 in
theorem w_c4 : (Jvm.Cond.code ({ cls := "java/lang/Long", name := "valueOf", desc := "(J)Ljava/lang/Long;" } : Jvm.MethodName) jdk_35_method_24_code (3 : Nat) (Option.some (Jvm.ClassFile.FieldType.object "java/lang/Long"))).before args0 about1 = true := code_word (m := ⟨8, 0⟩) (meth := k8m0) (c := k8c0) (by decide +kernel) rfl rfl rfl (by decide +kernel)
set_option maxRecDepth 65536 in
theorem w_c5 : (Jvm.Cond.code ({ cls := "java/lang/Long", name := "<init>", desc := "(J)V" } : Jvm.MethodName) jdk_35_method_26_code (3 : Nat) (Option.none : Option Jvm.ClassFile.FieldType)).before args0 about1 = true := code_word (m := ⟨8, 1⟩) (meth := k8m1) (c := k8c1) (by decide +kernel) rfl rfl rfl (by decide +kernel)
set_option maxRecDepth 65536 in
theorem w_c6 : (Jvm.Cond.code ({ cls := "java/lang/Number", name := "<init>", desc := "()V" } : Jvm.MethodName) jdk_18_method_1_code (1 : Nat) (Option.none : Option Jvm.ClassFile.FieldType)).before args0 about1 = true := code_word (m := ⟨4, 0⟩) (meth := k4m0) (c := k4c0) (by decide +kernel) rfl rfl rfl (by decide +kernel)
def codes1 : List Jvm.Cond := [Jvm.Cond.code x code maxLocals ret, Jvm.Cond.code ({ cls := "com/example/epoch/epoch/protocol/record/TimestampedOffset", name := "<init>", desc := "(JJ)V" } : Jvm.MethodName) prog_103_method_1_code (5 : Nat) (Option.none : Option Jvm.ClassFile.FieldType), Jvm.Cond.code ({ cls := "java/lang/Object", name := "<init>", desc := "()V" } : Jvm.MethodName) object_method_1_code (1 : Nat) (Option.none : Option Jvm.ClassFile.FieldType), Jvm.Cond.code ({ cls := "com/example/epoch/epoch/protocol/record/TimestampedOffset", name := "equals", desc := "(Ljava/lang/Object;)Z" } : Jvm.MethodName) prog_103_method_4_code (3 : Nat) (Option.some Jvm.ClassFile.FieldType.boolean), Jvm.Cond.code ({ cls := "java/lang/Long", name := "valueOf", desc := "(J)Ljava/lang/Long;" } : Jvm.MethodName) jdk_35_method_24_code (3 : Nat) (Option.some (Jvm.ClassFile.FieldType.object "java/lang/Long")), Jvm.Cond.code ({ cls := "java/lang/Long", name := "<init>", desc := "(J)V" } : Jvm.MethodName) jdk_35_method_26_code (3 : Nat) (Option.none : Option Jvm.ClassFile.FieldType), Jvm.Cond.code ({ cls := "java/lang/Number", name := "<init>", desc := "()V" } : Jvm.MethodName) jdk_18_method_1_code (1 : Nat) (Option.none : Option Jvm.ClassFile.FieldType)]
set_option maxRecDepth 65536 in
theorem codes_eq : words1.filter isCode = codes1 := rfl
theorem w_codes : ∀ c ∈ words1.filter isCode, c.before args0 about1 = true := by
  rw [codes_eq]
  intro c hc
  simp only [codes1, List.mem_cons, List.not_mem_nil, or_false] at hc
  rcases hc with rfl | rfl | rfl | rfl | rfl | rfl | rfl
  · exact w_c0
  · exact w_c1
  · exact w_c2
  · exact w_c3
  · exact w_c4
  · exact w_c5
  · exact w_c6
set_option maxRecDepth 65536 in
theorem w_t1 : (words1.take 24).all (fun c => isCode c || c.before args0 about1) = true := by decide +kernel
set_option maxRecDepth 65536 in
theorem w_t2 : (words1.drop 24).all (fun c => isCode c || c.before args0 about1) = true := by decide +kernel
theorem w_tables : (allAtoms (Jvm.Cond.code x code maxLocals ret :: tables_1)).before args0 about1 = true := by
  rw [allAtoms_all]
  show words1.all (fun c => c.before args0 about1) = true
  refine all_split ?_ w_codes
  rw [← List.take_append_drop 24 words1, List.all_append, w_t1, w_t2]
  rfl
set_option maxRecDepth 65536 in
theorem w_rest : rest_1_c.before args0 about1 = true := by decide +kernel
set_option maxRecDepth 65536 in
theorem w_case : (Jvm.Cond.and given_1 narrow_1).before args0 about1 = true := by decide +kernel
theorem w_applies : (headSpec (Jvm.Cond.code x code maxLocals ret :: tables_1) room_1).applies x e0.platform about1 = true :=
  (Spec.applies_iff w_frames).mpr ⟨w_running, w_runnable, w_alone, w_named, w_hears, w_ripe, w_room, w_tables⟩
theorem atStart : AtStart classFile x code maxLocals ret World_1 tables_1 room_1 Calls_1 rest_1 Pre_1 launch0 p0 e0 about1 theMethod args0 below0 :=
  ⟨lists_1, trivial, launch0.admits_env _ _ _, launch0.least_env, fairChoices_fair.cas, fairChoices_fair.clock, w_frames, w_args, w_heap, w_applies, trivial, w_rest, w_case⟩
end start1
theorem witness_1 : WitnessClaimed_1 := ⟨start1.p0, start1.e0, start1.about1, start1.theMethod, start1.args0, start1.below0, start1.atStart⟩
end Jvm.Pilot.@@N@@
