import JvmDerived
import JvmDerived.Pilot.@@N@@Statement
import JvmDerived.Pilot.@@N@@Code
set_option linter.unusedVariables false
set_option linter.unusedSimpArgs false
namespace Jvm.RoadKit
open Sem ClassFile Op Lib Jvm.Stand Jvm.Free Jvm.LawKit
section New
variable {p : Program} {l : Launch} {e : Env} {R : Room} {s : State} {m : MethodId} {args : Array Value} {below : List Frame} {meth : Method} {c : Code} {T : State} {locs : List Loc} {cells slots : Nat}
theorem retI (X : Stand p l e R s m args below meth c T locs cells slots) (hx : p.tables.exec = Jvm.exec) {pc : Nat} {Ls : Array Slot} {z : Int32} {rest : List Value} (hret : meth.sig.returnType = some .int) (hd : decode c.code pc = .ok (.ireturn, 1)) {fs : List Frame}
    (hl : ∀ (f : JFrame) (acts : List Action), f.method = m → f.locked = none → f.entered = [] → (doReturn e (T.setTop f) acts (some (.int z))).1 = T.setFrames fs) : Steps p.tables e below (T.setTop (mkF m pc Ls (.int z :: rest))) (T.setFrames fs) := by
  have hm' : T.vm.method? m = some meth := X.method'
  have hn : narrow .int (.int z) = .int z := rfl
  show Steps p.tables e below (T.setTop { method := m, pc := pc, locals := Ls, stack := _ :: rest, locked := none }) _
  jvm_step X.here [X.here.top, hx, hd, hm', hret, hn]
  first | (intro acts; rw [hl _ acts rfl rfl rfl]) | rw [hl _ _ rfl rfl rfl]
  exact Steps.refl _
end New
section Own
variable {p : Program} {l : Launch} {e : Env} {R : Room} {s : State} {m : MethodId} {args : Array Value} {below : List Frame} {meth : Method} {c : Code} {T A B : State} {locs : List Loc} {cells slots k n : Nat} {Q : Option Value → Heap → List Loc → Prop}
/-- from A the walk comes to its end, and Q holds there -/
def own_Go (p : Program) (e : Env) (below : List Frame) (s : State) (Q : Option Value → Heap → List Loc → Prop) (k n : Nat) (A : State) : Prop :=
  ∃ s₂ o, Steps p.tables e below A s₂ ∧ s₂.status = .running ∧ Ended s₂ below o ∧ ∃ v L, o = .returned v ∧ Q v s₂.heap L ∧ FrameEnd s o s₂ L k n
theorem own_st (h : ∀ t, Steps p.tables e below B t → Steps p.tables e below A t) (g : own_Go p e below s Q k n B) : own_Go p e below s Q k n A := by
  obtain ⟨s₂, o, h1, r⟩ := g
  exact ⟨s₂, o, h _ h1, r⟩
theorem own_tr (h : Steps p.tables e below A B) (g : own_Go p e below s Q k n B) : own_Go p e below s Q k n A := own_st (fun _ q => h.trans q) g
theorem own_end (X : Stand p l e R s m args below meth c T locs cells slots) (hlk : meth.locks = false) {v : Option Value} (hv : meth.sig.returnType = none → v = none) (hk : cells ≤ k) (hn : slots ≤ n) (hQ : Q v T.heap locs) {g : JFrame}
    (hgo : ∀ fs, (∀ (f : JFrame) (acts : List Action), f.method = m → f.locked = none → f.entered = [] → (doReturn e (T.setTop f) acts v).1 = T.setFrames fs) → Steps p.tables e below (T.setTop g) (T.setFrames fs)) : own_Go p e below s Q k n (T.setTop g) := by
  obtain ⟨fs, hr, hrun, hended, hW, hsame⟩ := X.leave hv hlk
  exact ⟨_, _, hgo fs hr, hrun, hended, v, locs, rfl, hQ, ⟨_, rfl⟩, hW, hsame.mono hk hn⟩
theorem own_retI (X : Stand p l e R s m args below meth c T locs cells slots) (hx : p.tables.exec = Jvm.exec) (hlk : meth.locks = false) {pc : Nat} {Ls : Array Slot} {z : Int32} {rest : List Value} (hret : meth.sig.returnType = some .int) (hd : decode c.code pc = .ok (.ireturn, 1)) (hk : cells ≤ k) (hn : slots ≤ n) (hQ : Q (some (.int z)) T.heap locs) :
    own_Go p e below s Q k n (T.setTop (mkF m pc Ls (.int z :: rest))) := own_end X hlk (fun h => by rw [hret] at h; cases h) hk hn hQ fun fs hr => retI X hx hret hd hr
theorem own_retN (X : Stand p l e R s m args below meth c T locs cells slots) (hx : p.tables.exec = Jvm.exec) (hlk : meth.locks = false) {pc : Nat} {Ls : Array Slot} {z z' : Int32} {rest : List Value} {t : FieldType} (hret : meth.sig.returnType = some t) (ht : t = .boolean ∨ t = .byte ∨ t = .char ∨ t = .short) (hz : nar t z = z') (hd : decode c.code pc = .ok (.ireturn, 1)) (hk : cells ≤ k) (hn : slots ≤ n) (hQ : Q (some (.int z')) T.heap locs) :
    own_Go p e below s Q k n (T.setTop (mkF m pc Ls (.int z :: rest))) := own_end X hlk (v := some (.int (nar t z))) (fun h => by rw [hret] at h; cases h) hk hn (hz ▸ hQ) fun fs hr => retN X hx hret ht hd hr
theorem own_retJ (X : Stand p l e R s m args below meth c T locs cells slots) (hx : p.tables.exec = Jvm.exec) (hlk : meth.locks = false) {pc : Nat} {Ls : Array Slot} {z : Int64} {rest : List Value} (hret : meth.sig.returnType = some .long) (hd : decode c.code pc = .ok (.lreturn, 1)) (hk : cells ≤ k) (hn : slots ≤ n) (hQ : Q (some (.long z)) T.heap locs) :
    own_Go p e below s Q k n (T.setTop (mkF m pc Ls (.long z :: rest))) := own_end X hlk (fun h => by rw [hret] at h; cases h) hk hn hQ fun fs hr => retOut X hx hret rfl (Or.inr (Or.inl ⟨rfl, rfl, _, rfl⟩)) hd hr
theorem own_retA (X : Stand p l e R s m args below meth c T locs cells slots) (hx : p.tables.exec = Jvm.exec) (hlk : meth.locks = false) {pc : Nat} {Ls : Array Slot} {w : Value} {t : FieldType} {rest : List Value} (hret : meth.sig.returnType = some t) (hw : w.isRef = true) (hd : decode c.code pc = .ok (.areturn, 1)) (hk : cells ≤ k) (hn : slots ≤ n) (hQ : Q (some w) T.heap locs) (ht : t.isReference = true := by rfl) :
    own_Go p e below s Q k n (T.setTop (mkF m pc Ls (w :: rest))) := own_end X hlk (fun h => by rw [hret] at h; cases h) hk hn hQ fun fs hr => retOut X hx hret (by cases w <;> first | (cases hw; done) | (cases t <;> first | (cases ht; done) | rfl)) (Or.inr (Or.inr (Or.inr (Or.inr ⟨rfl, ht, hw⟩)))) hd hr
theorem own_ret0 (X : Stand p l e R s m args below meth c T locs cells slots) (hx : p.tables.exec = Jvm.exec) (hlk : meth.locks = false) {pc : Nat} {Ls : Array Slot} (hret : meth.sig.returnType = none) (hd : decode c.code pc = .ok (.return_, 1)) (hk : cells ≤ k) (hn : slots ≤ n) (hQ : Q none T.heap locs) :
    own_Go p e below s Q k n (T.setTop (mkF m pc Ls [])) := own_end X hlk (fun _ => rfl) hk hn hQ fun fs hr => X.returnOut hx hret hd hr
end Own
theorem own_narR {C : String} {v : Value} (h : v.isRef = true) : narrow (.object C) v = v := by cases v <;> first | rfl | (cases h; done)
theorem own_fitR {C : String} {v : Value} (h : v.isRef = true) : fits (.object C) v = true := by cases v <;> first | rfl | (cases h; done)
theorem own_hp {T : State} {h : Heap} {a : Addr} {c : Cell} (e : T.heap = h) (q : h[a]? = some c) : T.heap[a]? = some c := e ▸ q
theorem own_pad (n : Nat) (d : Value) (i : Nat) : (List.replicate n d).getD i d = ([] : List Value).getD i d := by
  have h := pad_rep [] d n i
  simpa using h
end Jvm.RoadKit
namespace Jvm.Pilot.@@N@@
open Jvm Jvm.ClassFile Sem Op Lib Jvm.Free Jvm.Stand Jvm.LawKit Jvm.RoadKit Bundle Jvm.Pilot.@@N@@.Jvm.D
theorem own_eqV {args : Array Value} {first s : State} {o : Option Outcome} {idx : List Nat} {t u : Term} {w : Value} (h : (Cond.eq t u).value args first o s idx = some true) (hu : u.eval args first o idx s = some w) : t.eval args first o idx s = some w := by
  simp only [Cond.value, hu] at h
  cases ht : t.eval args first o idx s with
  | none => simp [ht] at h
  | some v => cases v <;> cases w <;> simp_all

theorem own_NSroot {Z : State} {a0 : Array Value} {O K : String} {n : Nat} (w : (Cond.noSuperclass O).before a0 Z = true) (wi : (Cond.instantiable K n).before a0 Z = true) (hn : O ≠ K) : NS Z O K := by
  obtain ⟨c, k, h1, h2, h3, -, -⟩ := Cond.noSuperclass_spec w
  obtain ⟨t, k', g1, -⟩ := Cond.instantiable_spec wi
  have ne := ids_ne h1 g1 hn
  refine ⟨c, t, h1, g1, fun fuel => ?_⟩
  cases fuel with
  | zero => rfl
  | succ f => simp [Vm.isSubclassAux, ne, h2, h3]
theorem own_no {Z : State} {a0 : Array Value} {C S K : String} {n : Nat} (w : (Cond.superclass C S).before a0 Z = true) (wi : (Cond.instantiable K n).before a0 Z = true) (nn : NS Z C K) (hn : C ≠ K) : ∃ c t, Z.vm.findClass C = some c ∧ Z.vm.findClass K = some t ∧ Z.vm.assignable c t = false := by
  obtain ⟨c, t, h0, g0, n3⟩ := nn
  obtain ⟨p, k, kp, h1, h2, h3, h4, h5, -, h7⟩ := Cond.superclass_spec h0 w
  obtain ⟨t', k', g1, g2, g3, g4, -⟩ := Cond.instantiable_spec wi
  cases g0.symm.trans g1
  have g7 : k'.isInterface = false := by
    rw [Bool.or_eq_false_iff] at g4
    exact g4.1
  have ne := ids_ne h0 g0 hn
  refine ⟨c, t, h0, g0, ?_⟩
  show Z.vm.assignableAux (255 + 1) c t = false
  simp [Vm.assignableAux, ne, h2, g2, h5, g3, g7, Vm.isSubclass, n3]
def own_BoxI (Z : State) (aC : Addr) : Prop := ∃ cl : Cell, Arr Z Z.heap aC cl (.object "java/lang/Integer") ∧ cl.slots.size = 256 ∧ ∀ j : Int32, ¬ (j < 0 ∨ 256 ≤ j.toNatClampNeg) → ∃ r, cl.slots[j.toNatClampNeg]? = some (.ref r) ∧ Exa Z Z.heap r "java/lang/Integer" ∧ Fld Z Z.heap r "java/lang/Integer" "value" "I" (.int (j - 128))
theorem own_boxI {args : Array Value} {s : State} {aC : Addr} (ev : (Term.static "java/lang/Integer$IntegerCache" "cache" "[Ljava/lang/Integer;").eval args s none [] s = some (.ref aC)) (h2 : (Cond.arrayOf (Term.static "java/lang/Integer$IntegerCache" "cache" "[Ljava/lang/Integer;") (.object "java/lang/Integer")).before args s = true) (h4 : (Cond.eq (.length (Term.static "java/lang/Integer$IntegerCache" "cache" "[Ljava/lang/Integer;")) (.int 256)).before args s = true)
    (h5 : (Cond.all (Term.static "java/lang/Integer$IntegerCache" "cache" "[Ljava/lang/Integer;") (.and (.exactly (.elem (Term.static "java/lang/Integer$IntegerCache" "cache" "[Ljava/lang/Integer;") (.index 0)) "java/lang/Integer") (.eq (.field (.elem (Term.static "java/lang/Integer$IntegerCache" "cache" "[Ljava/lang/Integer;") (.index 0)) "java/lang/Integer" "value" "I") (.sub (.index 0) (.int 128))))).before args s = true) : own_BoxI s aC := by
  obtain ⟨cl, A⟩ := Arr.start ev (Cond.before_iff.mp h2)
  have hat : s.arrayAt? aC = some cl := IntBox.arrayAt_of A.1 A.2.1 A.2.2
  obtain ⟨hsz, hsize⟩ := IntBox.length_fwd h4 ev A.1 A.2.1 A.2.2
  have h256 : cl.slots.size = 256 := by
    have e := len_toInt hsz
    rw [hsize] at e
    have e2 : (256 : Int32).toInt = 256 := by decide
    omega
  have hall := Cond.all_elim ev hat (Cond.before_iff.mp h5)
  refine ⟨cl, A, h256, fun j hj => ?_⟩
  have hn : ¬ j < 0 := fun q => hj (Or.inl q)
  have hlt : j.toNatClampNeg < cl.slots.size := by rw [h256]; exact Nat.lt_of_not_le fun q => hj (Or.inr q)
  obtain ⟨g1, g2⟩ := and_e (hall _ hlt)
  obtain ⟨r, er⟩ := exa_v g1
  have ev' : (Term.static "java/lang/Integer$IntegerCache" "cache" "[Ljava/lang/Integer;").eval args s none [j.toNatClampNeg] s = some (.ref aC) := ev
  have ei : (Term.index 0).eval args s none [j.toNatClampNeg] s = some (.int j) := idx_at hn
  have el := elem_f (t := (Term.static "java/lang/Integer$IntegerCache" "cache" "[Ljava/lang/Integer;")) (a := .index 0) ev' ei hat hn
  have hr : cl.slots[j.toNatClampNeg]? = some (.ref r) := el.symm.trans er
  have es : (Term.sub (.index 0) (.int 128)).eval args s none [j.toNatClampNeg] s = some (.int (j - 128)) := by simp [Term.eval, (back32 hn).1]
  have ef := own_eqV g2 (w := .int (j - 128)) (es)
  exact ⟨r, hr, exa_at er g1, Fld.start ((fld_at er).symm.trans ef)⟩
theorem own_bkI (w : Int32) : (w + 128) - 128 = w := by simp
theorem own_placeI (w : Int32) (h1 : ¬ w < -128) (h2 : ¬ 127 < w) : ¬ ((w + 128) < 0 ∨ 256 ≤ (w + 128).toNatClampNeg) ∧ (w + 128).toNatClampNeg < 256 := by
  rw [Int32.lt_iff_toInt_lt] at h1 h2
  have e1 : (-128 : Int32).toInt = -128 := by decide
  have e2 : (127 : Int32).toInt = 127 := by decide
  have e3 : (128 : Int32).toInt = 128 := by decide
  have e : (w + 128).toInt = w.toInt + 128 := by
    rw [XT.add32 ⟨by omega, by omega⟩, e3]
  have hn : ¬ (w + 128) < 0 := by rw [XT.negI32]; omega
  have hc := nat_of hn
  refine ⟨fun q => q.elim hn fun q => ?_, ?_⟩ <;> omega
theorem own_d_jdk_18_method_1_code_0 : decode jdk_18_method_1_code 0 = .ok (.aload_n 0, 1) := by decide +kernel
theorem own_d_jdk_18_method_1_code_1 : decode jdk_18_method_1_code 1 = .ok (.invokespecial 1, 3) := by decide +kernel
theorem own_d_jdk_18_method_1_code_4 : decode jdk_18_method_1_code 4 = .ok (.return_, 1) := by decide +kernel
theorem own_pn0 : plainFor (⟨"java/lang/Number", "<init>", "()V"⟩ : MethodName) = true := by decide +kernel
def own_rm_number_Q (Z : State) (r : Addr) (h0 : Heap) (n0 : Nat) (v : Option Value) (h : Heap) (L : List Loc) : Prop := Fr n0 L ∧ v = none ∧ h = h0
theorem own_rm_number_ef (m : MethodId) (r : Addr)  : entryFrame m #[(.ref r)] 1 = mkF m 0 #[.val (.ref r)] [] := by first | (simp [entryFrame, mkF, argsToLocals, Value.category]; done) | rfl
set_option maxRecDepth 65536 in
set_option maxHeartbeats 40000000 in
theorem own_rm_number (l : Launch) (Z : State) (a0 : Array Value) (hw : ∀ d ∈ tables_1, d.before a0 Z = true) (ws : List Jvm.Cond) (r : Addr) (h0 : Heap) (n0 : Nat) (Z0 : n0 ≤ h0.size)  :
    MetFree l (⟨"java/lang/Number", "<init>", "()V"⟩ : MethodName) (head1 (Jvm.Cond.code (⟨"java/lang/Number", "<init>", "()V"⟩ : MethodName) jdk_18_method_1_code 1 none :: ws) ({ frames := 1, cells := 0, slots := 0, locals := 12 } : Room)) (fun a U => a = #[(.ref r)] ∧ Z.Warmed39 U.vm ∧ U.heap = h0) (fun _ _ _ _ _ => True) (fun _ U o U' => ∃ v L, o = .returned v ∧ own_rm_number_Q Z r h0 n0 v U'.heap L ∧ FrameEnd U o U' L ({ frames := 1, cells := 0, slots := 0, locals := 12 } : Room).cells ({ frames := 1, cells := 0, slots := 0, locals := 12 } : Room).slots) := by
  refine MetFree.of_bodySF own_pn0 hisR ?_
  intro p e s m args below meth c s₁ Bd hml0 hP hK
  obtain ⟨rfl, hZ, hh⟩ := hP
  have hx := Bd.exec
  have hby := Bd.bytes
  have hml : c.maxLocals = 1 := hml0
  have hlk := BodyLoose.notSynchronized Bd
  have hown : s.vm.findClass "java/lang/Number" = some m.cls := findClass_of_methodNamed Bd.named
  have hnm := (name_of_methodNamed Bd.named Bd.method).1
  have X0 : Stand p l e ({ frames := 1, cells := 0, slots := 0, locals := 12 } : Room) s m #[(.ref r)] below meth c s₁ [] 0 0 := Stand.of_body Bd
  have e0 : s₁.heap = h0 := by rw [← hh, Bd.state]; rfl
  have N0 := Fr.nil n0
  show own_Go p e below s (own_rm_number_Q Z r h0 n0) ({ frames := 1, cells := 0, slots := 0, locals := 12 } : Room).cells ({ frames := 1, cells := 0, slots := 0, locals := 12 } : Room).slots (s₁.setTop (entryFrame m #[(.ref r)] 1))
  rw [own_rm_number_ef]
  show own_Go p e below s _ _ _ (s₁.setTop (mkF m 0 #[.val (.ref r)] []))
  refine own_st (fun _ k => XS.aloadN X0.here hx rfl (hb hby own_d_jdk_18_method_1_code_0) rfl rfl k) ?_
  show own_Go p e below s _ _ _ (s₁.setTop (mkF m 1 #[.val (.ref r)] [(.ref r)]))
  obtain ⟨T1, X1, e1, st1⟩ := initO X0 hx hZ hown (hw _ (List.mem_of_getElem? (i := 78) rfl)) (hw _ (List.mem_of_getElem? (i := 7) rfl)) (hw _ (List.mem_of_getElem? (i := 8) rfl)) e0 (g := (mkF m 1 #[.val (.ref r)] [(.ref r)])) rfl (by rw [hml]; rfl) rfl (hb hby own_d_jdk_18_method_1_code_1) (by decide) (W := 0) (by show 2 * 0 + _ ≤ _; exact Nat.le_of_eq rfl) (by decide)
  refine own_st st1 ?_
  show own_Go p e below s _ _ _ (T1.setTop (mkF m 4 #[.val (.ref r)] []))
  refine own_ret0 X1 hx hlk Bd.returns (hb hby own_d_jdk_18_method_1_code_4) (by decide) (by decide) ?_
  rw [e1]
  exact ⟨N0, rfl, rfl⟩
theorem own_d_jdk_33_method_23_code_0 : decode jdk_33_method_23_code 0 = .ok (.aload_n 0, 1) := by decide +kernel
theorem own_d_jdk_33_method_23_code_1 : decode jdk_33_method_23_code 1 = .ok (.invokespecial 202, 3) := by decide +kernel
theorem own_d_jdk_33_method_23_code_4 : decode jdk_33_method_23_code 4 = .ok (.aload_n 0, 1) := by decide +kernel
theorem own_d_jdk_33_method_23_code_5 : decode jdk_33_method_23_code 5 = .ok (.iload_n 1, 1) := by decide +kernel
theorem own_d_jdk_33_method_23_code_6 : decode jdk_33_method_23_code 6 = .ok (.putfield 205, 3) := by decide +kernel
theorem own_d_jdk_33_method_23_code_9 : decode jdk_33_method_23_code 9 = .ok (.return_, 1) := by decide +kernel
theorem own_pn1 : plainFor (⟨"java/lang/Integer", "<init>", "(I)V"⟩ : MethodName) = true := by decide +kernel
theorem own_pd0 : parseMethodDescriptor "()V" = some ⟨[], none⟩ := by decide +kernel
def own_rm_boxinitI_Q (Z : State) (r : Addr) (p1 : Int32) (h0 : Heap) (n0 : Nat) (v : Option Value) (h : Heap) (L : List Loc) : Prop := Fr n0 L ∧ v = none ∧ Keep h0 h [r] ∧ Exa Z h r "java/lang/Integer" ∧ Fld Z h r "java/lang/Integer" "value" "I" (.int p1)
theorem own_rm_boxinitI_ef (m : MethodId) (r : Addr) (p1 : Int32)  : entryFrame m #[(.ref r), (.int p1)] 2 = mkF m 0 #[.val (.ref r), .val (.int p1)] [] := by first | (simp [entryFrame, mkF, argsToLocals, Value.category]; done) | rfl
set_option maxRecDepth 65536 in
set_option maxHeartbeats 40000000 in
theorem own_rm_boxinitI (l : Launch) (Z : State) (a0 : Array Value) (hw : ∀ d ∈ tables_1, d.before a0 Z = true) (ws : List Jvm.Cond) (r : Addr) (p1 : Int32) (h0 : Heap) (n0 : Nat) (Z0 : n0 ≤ h0.size) (E1 : Exa Z h0 r "java/lang/Integer") (F1 : Fld Z h0 r "java/lang/Integer" "value" "I" (.int (0 : Int32))) (g1 : n0 ≤ r) :
    MetFree l (⟨"java/lang/Integer", "<init>", "(I)V"⟩ : MethodName) (head1 (Jvm.Cond.code (⟨"java/lang/Integer", "<init>", "(I)V"⟩ : MethodName) jdk_33_method_23_code 2 none :: ws) ({ frames := 2, cells := 0, slots := 0, locals := 24 } : Room)) (fun a U => a = #[(.ref r), (.int p1)] ∧ Z.Warmed39 U.vm ∧ U.heap = h0) (fun _ _ _ _ _ => True) (fun _ U o U' => ∃ v L, o = .returned v ∧ own_rm_boxinitI_Q Z r p1 h0 n0 v U'.heap L ∧ FrameEnd U o U' L ({ frames := 2, cells := 0, slots := 0, locals := 24 } : Room).cells ({ frames := 2, cells := 0, slots := 0, locals := 24 } : Room).slots) := by
  refine MetFree.of_bodySF own_pn1 hisR ?_
  intro p e s m args below meth c s₁ Bd hml0 hP hK
  obtain ⟨rfl, hZ, hh⟩ := hP
  have hx := Bd.exec
  have hby := Bd.bytes
  have hml : c.maxLocals = 2 := hml0
  have hlk := BodyLoose.notSynchronized Bd
  have hown : s.vm.findClass "java/lang/Integer" = some m.cls := findClass_of_methodNamed Bd.named
  have hnm := (name_of_methodNamed Bd.named Bd.method).1
  have X0 : Stand p l e ({ frames := 2, cells := 0, slots := 0, locals := 24 } : Room) s m #[(.ref r), (.int p1)] below meth c s₁ [] 0 0 := Stand.of_body Bd
  have e0 : s₁.heap = h0 := by rw [← hh, Bd.state]; rfl
  have N0 := Fr.nil n0
  have Kp0 : Keep h0 h0 [r] := Keep.refl _ _
  show own_Go p e below s (own_rm_boxinitI_Q Z r p1 h0 n0) ({ frames := 2, cells := 0, slots := 0, locals := 24 } : Room).cells ({ frames := 2, cells := 0, slots := 0, locals := 24 } : Room).slots (s₁.setTop (entryFrame m #[(.ref r), (.int p1)] 2))
  rw [own_rm_boxinitI_ef]
  show own_Go p e below s _ _ _ (s₁.setTop (mkF m 0 #[.val (.ref r), .val (.int p1)] []))
  refine own_st (fun _ k => XS.aloadN X0.here hx rfl (hb hby own_d_jdk_33_method_23_code_0) rfl rfl k) ?_
  show own_Go p e below s _ _ _ (s₁.setTop (mkF m 1 #[.val (.ref r), .val (.int p1)] [(.ref r)]))
  obtain ⟨_, _, ⟨T2, L2, k2, n2⟩, -, X2, ⟨Lc2, hQ2, l2, y2, z2⟩, st2⟩ := X0.specialBack hx (y := (⟨"java/lang/Number", "<init>", "()V"⟩ : MethodName)) rfl hown (mvT hZ (hw _ (List.mem_of_getElem? (i := 72) rfl))) (mvT hZ (hw _ (List.mem_of_getElem? (i := 73) rfl))) (mvT hZ (hw _ (List.mem_of_getElem? (i := 77) rfl))) (by decide) (backOf (W := 0) (own_rm_number l Z a0 hw [] r h0 n0 Z0 ) hZ (hw _ (List.mem_of_getElem? (i := 77) rfl)) (hw _ (List.mem_of_getElem? (i := 76) rfl)) (by decide) (by decide)) (g := (mkF m 1 #[.val (.ref r), .val (.int p1)] [(.ref r)])) rfl (by rw [hml]; rfl) (Steps.refl _) (a := r) (argsL := []) (rest := []) (lenOf own_pd0 rfl) rfl (by show 2 * 0 + _ ≤ _; exact Nat.le_of_eq rfl) (hb hby own_d_jdk_33_method_23_code_1) (fun _ _ => ⟨rfl, e0, (by decide : 0 + 0 ≤ _), (by decide : 0 + 0 ≤ _)⟩)
  dsimp only [Pt.U, Pt.locs, Pt.cells, Pt.slots] at X2 l2 y2 z2 st2 hQ2
  subst l2 y2 z2
  obtain ⟨N2q, rfl, eh2⟩ := hQ2
  have N3 := Fr.app N0 N2q
  refine own_tr st2 ?_
  show own_Go p e below s _ _ _ (T2.setTop (mkF m 4 #[.val (.ref r), .val (.int p1)] []))
  refine own_st (fun _ k => XS.aloadN X2.here hx rfl (hb hby own_d_jdk_33_method_23_code_4) rfl rfl k) ?_
  show own_Go p e below s _ _ _ (T2.setTop (mkF m 5 #[.val (.ref r), .val (.int p1)] [(.ref r)]))
  refine own_st (fun _ k => XS.iloadN X2.here hx rfl (hb hby own_d_jdk_33_method_23_code_5) rfl k) ?_
  show own_Go p e below s _ _ _ (T2.setTop (mkF m 6 #[.val (.ref r), .val (.int p1)] [(.int p1), (.ref r)]))
  obtain ⟨T4, h4, X4, e4, W4, st4⟩ := putF X2 hx hZ hown (host := "") (Or.inl (hw _ (List.mem_of_getElem? (i := 79) rfl))) Via.refl eh2 F1 E1 (Or.inr ⟨(hw _ (List.mem_of_getElem? (i := 80) rfl)), rfl, hnm⟩) (hw _ (List.mem_of_getElem? (i := 67) rfl)) (ty := .int) (by decide) rfl rfl (g := (mkF m 6 #[.val (.ref r), .val (.int p1)] [(.int p1), (.ref r)])) rfl rfl (hb hby own_d_jdk_33_method_23_code_6)
  refine own_st st4 ?_
  have N5 := Fr.snoc X4 N3 g1
  have F6 : Fld Z h4 r "java/lang/Integer" "value" "I" (.int p1) := F1.same W4
  have Zs7 : n0 ≤ h4.size := Nat.le_trans Z0 (Nat.le_of_eq W4.size.symm)
  have Kp8 : Keep h0 h4 [r] := Kp0.wr W4 (Or.inl (List.mem_of_getElem? (i := 0) rfl))
  show own_Go p e below s _ _ _ (T4.setTop (mkF m 9 #[.val (.ref r), .val (.int p1)] []))
  have F9 : Exa Z h4 r "java/lang/Integer" := (E1.wr W4)
  refine own_ret0 X4 hx hlk Bd.returns (hb hby own_d_jdk_33_method_23_code_9) (by decide) (by decide) ?_
  rw [e4]
  exact ⟨N5, rfl, Kp8, F9, F6⟩
theorem own_d_jdk_33_method_22_code_0 : decode jdk_33_method_22_code 0 = .ok (.iload_n 0, 1) := by decide +kernel
theorem own_d_jdk_33_method_22_code_1 : decode jdk_33_method_22_code 1 = .ok (.bipush (-128), 2) := by decide +kernel
theorem own_d_jdk_33_method_22_code_3 : decode jdk_33_method_22_code 3 = .ok (.if_icmp .lt 20, 3) := by decide +kernel
theorem own_d_jdk_33_method_22_code_6 : decode jdk_33_method_22_code 6 = .ok (.iload_n 0, 1) := by decide +kernel
theorem own_d_jdk_33_method_22_code_7 : decode jdk_33_method_22_code 7 = .ok (.getstatic 191, 3) := by decide +kernel
theorem own_d_jdk_33_method_22_code_10 : decode jdk_33_method_22_code 10 = .ok (.if_icmp .gt 13, 3) := by decide +kernel
theorem own_d_jdk_33_method_22_code_13 : decode jdk_33_method_22_code 13 = .ok (.getstatic 195, 3) := by decide +kernel
theorem own_d_jdk_33_method_22_code_16 : decode jdk_33_method_22_code 16 = .ok (.iload_n 0, 1) := by decide +kernel
theorem own_d_jdk_33_method_22_code_17 : decode jdk_33_method_22_code 17 = .ok (.sipush 128, 3) := by decide +kernel
theorem own_d_jdk_33_method_22_code_20 : decode jdk_33_method_22_code 20 = .ok (.iadd, 1) := by decide +kernel
theorem own_d_jdk_33_method_22_code_21 : decode jdk_33_method_22_code 21 = .ok (.aaload, 1) := by decide +kernel
theorem own_d_jdk_33_method_22_code_22 : decode jdk_33_method_22_code 22 = .ok (.areturn, 1) := by decide +kernel
theorem own_d_jdk_33_method_22_code_23 : decode jdk_33_method_22_code 23 = .ok (.new 1, 3) := by decide +kernel
theorem own_d_jdk_33_method_22_code_26 : decode jdk_33_method_22_code 26 = .ok (.dup, 1) := by decide +kernel
theorem own_d_jdk_33_method_22_code_27 : decode jdk_33_method_22_code 27 = .ok (.iload_n 0, 1) := by decide +kernel
theorem own_d_jdk_33_method_22_code_28 : decode jdk_33_method_22_code 28 = .ok (.invokespecial 199, 3) := by decide +kernel
theorem own_d_jdk_33_method_22_code_31 : decode jdk_33_method_22_code 31 = .ok (.areturn, 1) := by decide +kernel
theorem own_pn2 : plainFor (⟨"java/lang/Integer", "valueOf", "(I)Ljava/lang/Integer;"⟩ : MethodName) = true := by decide +kernel
theorem own_pd1 : parseMethodDescriptor "(I)V" = some ⟨[.int], none⟩ := by decide +kernel
def own_rm_valueOfI_Q (Z : State) (p1 : Int32) (a_cacheI : Addr) (h0 : Heap) (n0 : Nat) (v : Option Value) (h : Heap) (L : List Loc) : Prop := ∃ r : Addr, Fr n0 L ∧ v = some (.ref r) ∧ Keep h0 h [] ∧ Exa Z h r "java/lang/Integer" ∧ Fld Z h r "java/lang/Integer" "value" "I" (.int p1)
theorem own_rm_valueOfI_ef (m : MethodId) (p1 : Int32)  : entryFrame m #[(.int p1)] 1 = mkF m 0 #[.val (.int p1)] [] := by first | (simp [entryFrame, mkF, argsToLocals, Value.category]; done) | rfl
set_option maxRecDepth 65536 in
set_option maxHeartbeats 40000000 in
theorem own_rm_valueOfI (l : Launch) (Z : State) (a0 : Array Value) (hw : ∀ d ∈ tables_1, d.before a0 Z = true) (ws : List Jvm.Cond) (p1 : Int32) (a_cacheI : Addr) (h0 : Heap) (n0 : Nat) (Z0 : n0 ≤ h0.size) (O0 : Old Z n0 h0) (S_cacheI : Sta Z Z.heap "java/lang/Integer$IntegerCache" "cache" "[Ljava/lang/Integer;" (.ref a_cacheI)) (BxI : own_BoxI Z a_cacheI) (S_high : Sta Z Z.heap "java/lang/Integer$IntegerCache" "high" "I" (.int (127 : Int32))) :
    MetFree l (⟨"java/lang/Integer", "valueOf", "(I)Ljava/lang/Integer;"⟩ : MethodName) (head1 (Jvm.Cond.code (⟨"java/lang/Integer", "valueOf", "(I)Ljava/lang/Integer;"⟩ : MethodName) jdk_33_method_22_code 1 (some (.object "java/lang/Integer")) :: ws) ({ frames := 3, cells := 1, slots := 1, locals := 38 } : Room)) (fun a U => a = #[(.int p1)] ∧ Z.Warmed39 U.vm ∧ U.heap = h0) (fun _ _ _ _ _ => True) (fun _ U o U' => ∃ v L, o = .returned v ∧ own_rm_valueOfI_Q Z p1 a_cacheI h0 n0 v U'.heap L ∧ FrameEnd U o U' L ({ frames := 3, cells := 1, slots := 1, locals := 38 } : Room).cells ({ frames := 3, cells := 1, slots := 1, locals := 38 } : Room).slots) := by
  refine MetFree.of_bodySF own_pn2 hisR ?_
  intro p e s m args below meth c s₁ Bd hml0 hP hK
  obtain ⟨rfl, hZ, hh⟩ := hP
  have hx := Bd.exec
  have hby := Bd.bytes
  have hml : c.maxLocals = 1 := hml0
  have hlk := BodyLoose.notSynchronized Bd
  have hown : s.vm.findClass "java/lang/Integer" = some m.cls := findClass_of_methodNamed Bd.named
  have hnm := (name_of_methodNamed Bd.named Bd.method).1
  have X0 : Stand p l e ({ frames := 3, cells := 1, slots := 1, locals := 38 } : Room) s m #[(.int p1)] below meth c s₁ [] 0 0 := Stand.of_body Bd
  have e0 : s₁.heap = h0 := by rw [← hh, Bd.state]; rfl
  have N0 := Fr.nil n0
  have Kp0 : Keep h0 h0 [] := Keep.refl _ _
  show own_Go p e below s (own_rm_valueOfI_Q Z p1 a_cacheI h0 n0) ({ frames := 3, cells := 1, slots := 1, locals := 38 } : Room).cells ({ frames := 3, cells := 1, slots := 1, locals := 38 } : Room).slots (s₁.setTop (entryFrame m #[(.int p1)] 1))
  rw [own_rm_valueOfI_ef]
  show own_Go p e below s _ _ _ (s₁.setTop (mkF m 0 #[.val (.int p1)] []))
  refine own_st (fun _ k => XS.iloadN X0.here hx rfl (hb hby own_d_jdk_33_method_22_code_0) rfl k) ?_
  show own_Go p e below s _ _ _ (s₁.setTop (mkF m 1 #[.val (.int p1)] [(.int p1)]))
  refine own_st (fun _ k => XT.bipushV X0.here hx rfl (-128 : Int32) (hb hby own_d_jdk_33_method_22_code_1) (by decide) k) ?_
  show own_Go p e below s _ _ _ (s₁.setTop (mkF m 3 #[.val (.int p1)] [(.int (-128 : Int32)), (.int p1)]))
  by_cases hc10 : p1 < (-128 : Int32)
  · refine own_st (fun _ k => XS.icmpYes X0.here hx rfl (pc0 := 3) (pc' := 23) rfl (hb hby own_d_jdk_33_method_22_code_3) rfl (XT.ii_lt_t hc10) (by decide) (by decide) k) ?_
    show own_Go p e below s _ _ _ (s₁.setTop (mkF m 23 #[.val (.int p1)] []))
    obtain ⟨T11, h11, X11, e11, E11, A11, D11, -, st11⟩ := newO X0 hx hZ hown (hw _ (List.mem_of_getElem? (i := 66) rfl)) (hw _ (List.mem_of_getElem? (i := 67) rfl)) (hw _ (List.mem_of_getElem? (i := 57) rfl)) e0 (g := (mkF m 23 #[.val (.int p1)] [])) rfl (hb hby own_d_jdk_33_method_22_code_23) (by decide) (by decide)
    obtain ⟨b11, g11⟩ : ∃ z, z = h0.size := ⟨_, rfl⟩
    rw [← g11] at A11 D11 st11
    refine own_st st11 ?_
    have Zs12 : n0 ≤ h11.size := Nat.le_trans Z0 E11.1
    have Kp13 : Keep h0 h11 [] := Kp0.ext E11
    have g14 : n0 ≤ b11 := Nat.le_trans Z0 (Nat.le_of_eq g11.symm)
    have sz15 : h0.size ≤ b11 := Nat.le_trans Kp0.1 (Nat.le_of_eq g11.symm)
    have F16 : Fld Z h11 b11 "java/lang/Integer" "value" "I" (.int (0 : Int32)) := D11 (Or.inr (hw _ (List.mem_of_getElem? (i := 80) rfl))) (ty := .int) (by decide)
    show own_Go p e below s _ _ _ (T11.setTop (mkF m 26 #[.val (.int p1)] [(.ref b11)]))
    refine own_st (fun _ k => XS.dup X11.here hx rfl (hb hby own_d_jdk_33_method_22_code_26) rfl rfl k) ?_
    show own_Go p e below s _ _ _ (T11.setTop (mkF m 27 #[.val (.int p1)] [(.ref b11), (.ref b11)]))
    refine own_st (fun _ k => XS.iloadN X11.here hx rfl (hb hby own_d_jdk_33_method_22_code_27) rfl k) ?_
    show own_Go p e below s _ _ _ (T11.setTop (mkF m 28 #[.val (.int p1)] [(.int p1), (.ref b11), (.ref b11)]))
    obtain ⟨_, _, ⟨T17, L17, k17, n17⟩, -, X17, ⟨Lc17, hQ17, l17, y17, z17⟩, st17⟩ := X11.specialBack hx (y := (⟨"java/lang/Integer", "<init>", "(I)V"⟩ : MethodName)) rfl hown (mvT hZ (hw _ (List.mem_of_getElem? (i := 68) rfl))) (mvT hZ (hw _ (List.mem_of_getElem? (i := 69) rfl))) (mvT hZ (hw _ (List.mem_of_getElem? (i := 71) rfl))) (by decide) (backOf (W := 1) (own_rm_boxinitI l Z a0 hw [] b11 p1 h11 n0 Zs12 A11 F16 g14) hZ (hw _ (List.mem_of_getElem? (i := 71) rfl)) (hw _ (List.mem_of_getElem? (i := 57) rfl)) (by decide) (by decide)) (g := (mkF m 28 #[.val (.int p1)] [(.int p1), (.ref b11), (.ref b11)])) rfl (by rw [hml]; rfl) (Steps.refl _) (a := b11) (argsL := [(.int p1)]) (rest := [(.ref b11)]) (lenOf own_pd1 rfl) rfl (by show 2 * 0 + _ ≤ _; exact Nat.le_of_eq rfl) (hb hby own_d_jdk_33_method_22_code_28) (fun _ _ => ⟨rfl, e11, (by decide : 1 + 0 ≤ _), (by decide : 1 + 0 ≤ _)⟩)
    dsimp only [Pt.U, Pt.locs, Pt.cells, Pt.slots] at X17 l17 y17 z17 st17 hQ17
    subst l17 y17 z17
    obtain ⟨N17q, rfl, K17, q18, q19⟩ := hQ17
    have N20 := Fr.app N0 N17q
    refine own_tr st17 ?_
    have Zs21 : n0 ≤ T17.heap.size := Nat.le_trans Zs12 K17.1
    have Kp22 : Keep h0 T17.heap [] := Kp13.trans K17 (allS (Or.inr sz15) all0)
    show own_Go p e below s _ _ _ (T17.setTop (mkF m 31 #[.val (.int p1)] [(.ref b11)]))
    refine own_retA X17 hx hlk Bd.returns rfl (hb hby own_d_jdk_33_method_22_code_31) (by decide) (by decide) ?_
    skip
    exact ⟨b11, N20, rfl, Kp22, q18, q19⟩
  · refine own_st (fun _ k => XS.icmpNo X0.here hx rfl (hb hby own_d_jdk_33_method_22_code_3) rfl (XT.ii_lt_f hc10) k) ?_
    show own_Go p e below s _ _ _ (s₁.setTop (mkF m 6 #[.val (.int p1)] []))
    refine own_st (fun _ k => XS.iloadN X0.here hx rfl (hb hby own_d_jdk_33_method_22_code_6) rfl k) ?_
    show own_Go p e below s _ _ _ (s₁.setTop (mkF m 7 #[.val (.int p1)] [(.int p1)]))
    have F23 : Sta Z h0 "java/lang/Integer$IntegerCache" "high" "I" (.int (127 : Int32)) := S_high.ext O0.2
    obtain ⟨T24, X24, e24, st24⟩ := getS2 X0 hx hZ hown (host := "") (Or.inl (hw _ (List.mem_of_getElem? (i := 59) rfl))) Via.refl e0 F23 (g := (mkF m 7 #[.val (.int p1)] [(.int p1)])) rfl (hb hby own_d_jdk_33_method_22_code_7)
    refine own_st st24 ?_
    show own_Go p e below s _ _ _ (T24.setTop (mkF m 10 #[.val (.int p1)] [(.int (127 : Int32)), (.int p1)]))
    by_cases hc25 : (127 : Int32) < p1
    · refine own_st (fun _ k => XS.icmpYes X24.here hx rfl (pc0 := 10) (pc' := 23) rfl (hb hby own_d_jdk_33_method_22_code_10) rfl (XT.ii_gt_t hc25) (by decide) (by decide) k) ?_
      show own_Go p e below s _ _ _ (T24.setTop (mkF m 23 #[.val (.int p1)] []))
      obtain ⟨T26, h26, X26, e26, E26, A26, D26, -, st26⟩ := newO X24 hx hZ hown (hw _ (List.mem_of_getElem? (i := 66) rfl)) (hw _ (List.mem_of_getElem? (i := 67) rfl)) (hw _ (List.mem_of_getElem? (i := 57) rfl)) e24 (g := (mkF m 23 #[.val (.int p1)] [])) rfl (hb hby own_d_jdk_33_method_22_code_23) (by decide) (by decide)
      obtain ⟨b26, g26⟩ : ∃ z, z = h0.size := ⟨_, rfl⟩
      rw [← g26] at A26 D26 st26
      refine own_st st26 ?_
      have Zs27 : n0 ≤ h26.size := Nat.le_trans Z0 E26.1
      have Kp28 : Keep h0 h26 [] := Kp0.ext E26
      have g29 : n0 ≤ b26 := Nat.le_trans Z0 (Nat.le_of_eq g26.symm)
      have sz30 : h0.size ≤ b26 := Nat.le_trans Kp0.1 (Nat.le_of_eq g26.symm)
      have F31 : Fld Z h26 b26 "java/lang/Integer" "value" "I" (.int (0 : Int32)) := D26 (Or.inr (hw _ (List.mem_of_getElem? (i := 80) rfl))) (ty := .int) (by decide)
      show own_Go p e below s _ _ _ (T26.setTop (mkF m 26 #[.val (.int p1)] [(.ref b26)]))
      refine own_st (fun _ k => XS.dup X26.here hx rfl (hb hby own_d_jdk_33_method_22_code_26) rfl rfl k) ?_
      show own_Go p e below s _ _ _ (T26.setTop (mkF m 27 #[.val (.int p1)] [(.ref b26), (.ref b26)]))
      refine own_st (fun _ k => XS.iloadN X26.here hx rfl (hb hby own_d_jdk_33_method_22_code_27) rfl k) ?_
      show own_Go p e below s _ _ _ (T26.setTop (mkF m 28 #[.val (.int p1)] [(.int p1), (.ref b26), (.ref b26)]))
      obtain ⟨_, _, ⟨T32, L32, k32, n32⟩, -, X32, ⟨Lc32, hQ32, l32, y32, z32⟩, st32⟩ := X26.specialBack hx (y := (⟨"java/lang/Integer", "<init>", "(I)V"⟩ : MethodName)) rfl hown (mvT hZ (hw _ (List.mem_of_getElem? (i := 68) rfl))) (mvT hZ (hw _ (List.mem_of_getElem? (i := 69) rfl))) (mvT hZ (hw _ (List.mem_of_getElem? (i := 71) rfl))) (by decide) (backOf (W := 1) (own_rm_boxinitI l Z a0 hw [] b26 p1 h26 n0 Zs27 A26 F31 g29) hZ (hw _ (List.mem_of_getElem? (i := 71) rfl)) (hw _ (List.mem_of_getElem? (i := 57) rfl)) (by decide) (by decide)) (g := (mkF m 28 #[.val (.int p1)] [(.int p1), (.ref b26), (.ref b26)])) rfl (by rw [hml]; rfl) (Steps.refl _) (a := b26) (argsL := [(.int p1)]) (rest := [(.ref b26)]) (lenOf own_pd1 rfl) rfl (by show 2 * 0 + _ ≤ _; exact Nat.le_of_eq rfl) (hb hby own_d_jdk_33_method_22_code_28) (fun _ _ => ⟨rfl, e26, (by decide : 1 + 0 ≤ _), (by decide : 1 + 0 ≤ _)⟩)
      dsimp only [Pt.U, Pt.locs, Pt.cells, Pt.slots] at X32 l32 y32 z32 st32 hQ32
      subst l32 y32 z32
      obtain ⟨N32q, rfl, K32, q33, q34⟩ := hQ32
      have N35 := Fr.app N0 N32q
      refine own_tr st32 ?_
      have Zs36 : n0 ≤ T32.heap.size := Nat.le_trans Zs27 K32.1
      have Kp37 : Keep h0 T32.heap [] := Kp28.trans K32 (allS (Or.inr sz30) all0)
      show own_Go p e below s _ _ _ (T32.setTop (mkF m 31 #[.val (.int p1)] [(.ref b26)]))
      refine own_retA X32 hx hlk Bd.returns rfl (hb hby own_d_jdk_33_method_22_code_31) (by decide) (by decide) ?_
      skip
      exact ⟨b26, N35, rfl, Kp37, q33, q34⟩
    · refine own_st (fun _ k => XS.icmpNo X24.here hx rfl (hb hby own_d_jdk_33_method_22_code_10) rfl (XT.ii_gt_f hc25) k) ?_
      show own_Go p e below s _ _ _ (T24.setTop (mkF m 13 #[.val (.int p1)] []))
      have F38 : Sta Z h0 "java/lang/Integer$IntegerCache" "cache" "[Ljava/lang/Integer;" (.ref a_cacheI) := S_cacheI.ext O0.2
      obtain ⟨T39, X39, e39, st39⟩ := getS2 X24 hx hZ hown (host := "") (Or.inl (hw _ (List.mem_of_getElem? (i := 61) rfl))) Via.refl e24 F38 (g := (mkF m 13 #[.val (.int p1)] [])) rfl (hb hby own_d_jdk_33_method_22_code_13)
      refine own_st st39 ?_
      show own_Go p e below s _ _ _ (T39.setTop (mkF m 16 #[.val (.int p1)] [(.ref a_cacheI)]))
      refine own_st (fun _ k => XS.iloadN X39.here hx rfl (hb hby own_d_jdk_33_method_22_code_16) rfl k) ?_
      show own_Go p e below s _ _ _ (T39.setTop (mkF m 17 #[.val (.int p1)] [(.int p1), (.ref a_cacheI)]))
      refine own_st (fun _ k => XT.sipushV X39.here hx rfl (128 : Int32) (hb hby own_d_jdk_33_method_22_code_17) (by decide) k) ?_
      show own_Go p e below s _ _ _ (T39.setTop (mkF m 20 #[.val (.int p1)] [(.int (128 : Int32)), (.int p1), (.ref a_cacheI)]))
      refine own_st (fun _ k => XS.iadd X39.here hx rfl (hb hby own_d_jdk_33_method_22_code_20) rfl k) ?_
      show own_Go p e below s _ _ _ (T39.setTop (mkF m 21 #[.val (.int p1)] [(.int (p1 + (128 : Int32))), (.ref a_cacheI)]))
      obtain ⟨hin0, hlt0⟩ := own_placeI p1 hc10 hc25
      obtain ⟨cl0, Ar0, Sz0, Hj0⟩ := BxI
      obtain ⟨r0, hat0, Er0, Fr0⟩ := Hj0 _ hin0
      refine own_st (fun _ k => X39.aaload hx (j := (p1 + (128 : Int32))) (v := .ref r0) (own_hp e39 (Ar0.ext O0.2).1) (State.isArrayOf_alike hZ.alike Ar0.2.1) rfl Ar0.2.2 (by rw [Sz0]; exact hin0) hat0 (g := (mkF m 21 #[.val (.int p1)] [(.int (p1 + (128 : Int32))), (.ref a_cacheI)])) rfl rfl (hb hby own_d_jdk_33_method_22_code_21) _ k) ?_
      have hv1 : Fld Z Z.heap r0 "java/lang/Integer" "value" "I" (.int p1) := by rw [own_bkI p1] at Fr0; exact Fr0
      show own_Go p e below s _ _ _ (T39.setTop (mkF m 22 #[.val (.int p1)] [(.ref r0)]))
      have F40 : Exa Z h0 r0 "java/lang/Integer" := Er0.ext O0.2
      have F41 : Fld Z h0 r0 "java/lang/Integer" "value" "I" (.int p1) := hv1.ext O0.2
      refine own_retA X39 hx hlk Bd.returns rfl (hb hby own_d_jdk_33_method_22_code_22) (by decide) (by decide) ?_
      rw [e39]
      exact ⟨r0, N0, rfl, Kp0, F40, F41⟩
theorem own_d_prog_197_method_1_code_0 : decode prog_197_method_1_code 0 = .ok (.aload_n 0, 1) := by decide +kernel
theorem own_d_prog_197_method_1_code_1 : decode prog_197_method_1_code 1 = .ok (.invokespecial 1, 3) := by decide +kernel
theorem own_d_prog_197_method_1_code_4 : decode prog_197_method_1_code 4 = .ok (.aload_n 0, 1) := by decide +kernel
theorem own_d_prog_197_method_1_code_5 : decode prog_197_method_1_code 5 = .ok (.aload_n 1, 1) := by decide +kernel
theorem own_d_prog_197_method_1_code_6 : decode prog_197_method_1_code 6 = .ok (.putfield 7, 3) := by decide +kernel
theorem own_d_prog_197_method_1_code_9 : decode prog_197_method_1_code 9 = .ok (.aload_n 0, 1) := by decide +kernel
theorem own_d_prog_197_method_1_code_10 : decode prog_197_method_1_code 10 = .ok (.iload_n 2, 1) := by decide +kernel
theorem own_d_prog_197_method_1_code_11 : decode prog_197_method_1_code 11 = .ok (.putfield 13, 3) := by decide +kernel
theorem own_d_prog_197_method_1_code_14 : decode prog_197_method_1_code 14 = .ok (.return_, 1) := by decide +kernel
theorem own_pn3 : plainFor (⟨"com/example/treeloom/treeloom/xdm/Node", "<init>", "(Lcom/example/treeloom/treeloom/xdm/Tree;I)V"⟩ : MethodName) = true := by decide +kernel
def own_rm_node_Q (Z : State) (r : Addr) (q1 : Addr) (q2 : Int32) (h0 : Heap) (n0 : Nat) (v : Option Value) (h : Heap) (L : List Loc) : Prop := Fr n0 L ∧ v = none ∧ Keep h0 h [r] ∧ Exa Z h r "com/example/treeloom/treeloom/xdm/Node" ∧ Fld Z h r "com/example/treeloom/treeloom/xdm/Node" "tree" "Lcom/example/treeloom/treeloom/xdm/Tree;" (.ref q1) ∧ Fld Z h r "com/example/treeloom/treeloom/xdm/Node" "index" "I" (.int q2)
theorem own_rm_node_ef (m : MethodId) (r : Addr) (q1 : Addr) (q2 : Int32)  : entryFrame m #[(.ref r), (.ref q1), (.int q2)] 3 = mkF m 0 #[.val (.ref r), .val (.ref q1), .val (.int q2)] [] := by first | (simp [entryFrame, mkF, argsToLocals, Value.category]; done) | rfl
set_option maxRecDepth 65536 in
set_option maxHeartbeats 40000000 in
theorem own_rm_node (l : Launch) (Z : State) (a0 : Array Value) (hw : ∀ d ∈ tables_1, d.before a0 Z = true) (ws : List Jvm.Cond) (r : Addr) (q1 : Addr) (q2 : Int32) (h0 : Heap) (n0 : Nat) (Z0 : n0 ≤ h0.size) (E1 : Exa Z h0 r "com/example/treeloom/treeloom/xdm/Node") (F1 : Fld Z h0 r "com/example/treeloom/treeloom/xdm/Node" "tree" "Lcom/example/treeloom/treeloom/xdm/Tree;" .null) (F2 : Fld Z h0 r "com/example/treeloom/treeloom/xdm/Node" "index" "I" (.int (0 : Int32))) (g1 : n0 ≤ r) :
    MetFree l (⟨"com/example/treeloom/treeloom/xdm/Node", "<init>", "(Lcom/example/treeloom/treeloom/xdm/Tree;I)V"⟩ : MethodName) (head1 (Jvm.Cond.code (⟨"com/example/treeloom/treeloom/xdm/Node", "<init>", "(Lcom/example/treeloom/treeloom/xdm/Tree;I)V"⟩ : MethodName) prog_197_method_1_code 3 none :: ws) ({ frames := 1, cells := 0, slots := 0, locals := 12 } : Room)) (fun a U => a = #[(.ref r), (.ref q1), (.int q2)] ∧ Z.Warmed39 U.vm ∧ U.heap = h0) (fun _ _ _ _ _ => True) (fun _ U o U' => ∃ v L, o = .returned v ∧ own_rm_node_Q Z r q1 q2 h0 n0 v U'.heap L ∧ FrameEnd U o U' L ({ frames := 1, cells := 0, slots := 0, locals := 12 } : Room).cells ({ frames := 1, cells := 0, slots := 0, locals := 12 } : Room).slots) := by
  refine MetFree.of_bodySF own_pn3 hisR ?_
  intro p e s m args below meth c s₁ Bd hml0 hP hK
  obtain ⟨rfl, hZ, hh⟩ := hP
  have hx := Bd.exec
  have hby := Bd.bytes
  have hml : c.maxLocals = 3 := hml0
  have hlk := BodyLoose.notSynchronized Bd
  have hown : s.vm.findClass "com/example/treeloom/treeloom/xdm/Node" = some m.cls := findClass_of_methodNamed Bd.named
  have hnm := (name_of_methodNamed Bd.named Bd.method).1
  have X0 : Stand p l e ({ frames := 1, cells := 0, slots := 0, locals := 12 } : Room) s m #[(.ref r), (.ref q1), (.int q2)] below meth c s₁ [] 0 0 := Stand.of_body Bd
  have e0 : s₁.heap = h0 := by rw [← hh, Bd.state]; rfl
  have N0 := Fr.nil n0
  have Kp0 : Keep h0 h0 [r] := Keep.refl _ _
  show own_Go p e below s (own_rm_node_Q Z r q1 q2 h0 n0) ({ frames := 1, cells := 0, slots := 0, locals := 12 } : Room).cells ({ frames := 1, cells := 0, slots := 0, locals := 12 } : Room).slots (s₁.setTop (entryFrame m #[(.ref r), (.ref q1), (.int q2)] 3))
  rw [own_rm_node_ef]
  show own_Go p e below s _ _ _ (s₁.setTop (mkF m 0 #[.val (.ref r), .val (.ref q1), .val (.int q2)] []))
  refine own_st (fun _ k => XS.aloadN X0.here hx rfl (hb hby own_d_prog_197_method_1_code_0) rfl rfl k) ?_
  show own_Go p e below s _ _ _ (s₁.setTop (mkF m 1 #[.val (.ref r), .val (.ref q1), .val (.int q2)] [(.ref r)]))
  obtain ⟨T42, X42, e42, st42⟩ := initO X0 hx hZ hown (hw _ (List.mem_of_getElem? (i := 39) rfl)) (hw _ (List.mem_of_getElem? (i := 7) rfl)) (hw _ (List.mem_of_getElem? (i := 8) rfl)) e0 (g := (mkF m 1 #[.val (.ref r), .val (.ref q1), .val (.int q2)] [(.ref r)])) rfl (by rw [hml]; rfl) rfl (hb hby own_d_prog_197_method_1_code_1) (by decide) (W := 0) (by show 2 * 0 + _ ≤ _; exact Nat.le_of_eq rfl) (by decide)
  refine own_st st42 ?_
  show own_Go p e below s _ _ _ (T42.setTop (mkF m 4 #[.val (.ref r), .val (.ref q1), .val (.int q2)] []))
  refine own_st (fun _ k => XS.aloadN X42.here hx rfl (hb hby own_d_prog_197_method_1_code_4) rfl rfl k) ?_
  show own_Go p e below s _ _ _ (T42.setTop (mkF m 5 #[.val (.ref r), .val (.ref q1), .val (.int q2)] [(.ref r)]))
  refine own_st (fun _ k => XS.aloadN X42.here hx rfl (hb hby own_d_prog_197_method_1_code_5) rfl rfl k) ?_
  show own_Go p e below s _ _ _ (T42.setTop (mkF m 6 #[.val (.ref r), .val (.ref q1), .val (.int q2)] [(.ref q1), (.ref r)]))
  obtain ⟨T43, h43, X43, e43, W43, st43⟩ := putF X42 hx hZ hown (host := "") (Or.inl (hw _ (List.mem_of_getElem? (i := 40) rfl))) Via.refl e42 F1 E1 (Or.inr ⟨(hw _ (List.mem_of_getElem? (i := 41) rfl)), rfl, hnm⟩) (hw _ (List.mem_of_getElem? (i := 34) rfl)) (ty := (.object "com/example/treeloom/treeloom/xdm/Tree")) (by decide) rfl rfl (g := (mkF m 6 #[.val (.ref r), .val (.ref q1), .val (.int q2)] [(.ref q1), (.ref r)])) rfl rfl (hb hby own_d_prog_197_method_1_code_6)
  refine own_st st43 ?_
  have N44 := Fr.snoc X43 N0 g1
  have F45 : Fld Z h43 r "com/example/treeloom/treeloom/xdm/Node" "tree" "Lcom/example/treeloom/treeloom/xdm/Tree;" (.ref q1) := F1.same W43
  have Zs46 : n0 ≤ h43.size := Nat.le_trans Z0 (Nat.le_of_eq W43.size.symm)
  have Kp47 : Keep h0 h43 [r] := Kp0.wr W43 (Or.inl (List.mem_of_getElem? (i := 0) rfl))
  show own_Go p e below s _ _ _ (T43.setTop (mkF m 9 #[.val (.ref r), .val (.ref q1), .val (.int q2)] []))
  refine own_st (fun _ k => XS.aloadN X43.here hx rfl (hb hby own_d_prog_197_method_1_code_9) rfl rfl k) ?_
  show own_Go p e below s _ _ _ (T43.setTop (mkF m 10 #[.val (.ref r), .val (.ref q1), .val (.int q2)] [(.ref r)]))
  refine own_st (fun _ k => XS.iloadN X43.here hx rfl (hb hby own_d_prog_197_method_1_code_10) rfl k) ?_
  show own_Go p e below s _ _ _ (T43.setTop (mkF m 11 #[.val (.ref r), .val (.ref q1), .val (.int q2)] [(.int q2), (.ref r)]))
  have F48 : Fld Z h43 r "com/example/treeloom/treeloom/xdm/Node" "index" "I" (.int (0 : Int32)) := (F2.other W43 (Or.inr (slot_ne (Or.inr (hw _ (List.mem_of_getElem? (i := 43) rfl))) (Or.inr (hw _ (List.mem_of_getElem? (i := 41) rfl))) (by decide) (t := .int) (t' := (.object "com/example/treeloom/treeloom/xdm/Tree")) (by decide) (by decide))))
  have F49 : Exa Z h43 r "com/example/treeloom/treeloom/xdm/Node" := (E1.wr W43)
  obtain ⟨T50, h50, X50, e50, W50, st50⟩ := putF X43 hx hZ hown (host := "") (Or.inl (hw _ (List.mem_of_getElem? (i := 42) rfl))) Via.refl e43 F48 F49 (Or.inr ⟨(hw _ (List.mem_of_getElem? (i := 43) rfl)), rfl, hnm⟩) (hw _ (List.mem_of_getElem? (i := 34) rfl)) (ty := .int) (by decide) rfl rfl (g := (mkF m 11 #[.val (.ref r), .val (.ref q1), .val (.int q2)] [(.int q2), (.ref r)])) rfl rfl (hb hby own_d_prog_197_method_1_code_11)
  refine own_st st50 ?_
  have N51 := Fr.snoc X50 N44 g1
  have F52 : Fld Z h50 r "com/example/treeloom/treeloom/xdm/Node" "index" "I" (.int q2) := F48.same W50
  have Zs53 : n0 ≤ h50.size := Nat.le_trans Zs46 (Nat.le_of_eq W50.size.symm)
  have Kp54 : Keep h0 h50 [r] := Kp47.wr W50 (Or.inl (List.mem_of_getElem? (i := 0) rfl))
  show own_Go p e below s _ _ _ (T50.setTop (mkF m 14 #[.val (.ref r), .val (.ref q1), .val (.int q2)] []))
  have F55 : Exa Z h50 r "com/example/treeloom/treeloom/xdm/Node" := (F49.wr W50)
  have F56 : Fld Z h50 r "com/example/treeloom/treeloom/xdm/Node" "tree" "Lcom/example/treeloom/treeloom/xdm/Tree;" (.ref q1) := (F45.other W50 (Or.inr (slot_ne (Or.inr (hw _ (List.mem_of_getElem? (i := 41) rfl))) (Or.inr (hw _ (List.mem_of_getElem? (i := 43) rfl))) (by decide) (t := (.object "com/example/treeloom/treeloom/xdm/Tree")) (t' := .int) (by decide) (by decide))))
  refine own_ret0 X50 hx hlk Bd.returns (hb hby own_d_prog_197_method_1_code_14) (by decide) (by decide) ?_
  rw [e50]
  exact ⟨N51, rfl, Kp54, F55, F56, F52⟩
theorem own_d_prog_211_method_1_code_0 : decode prog_211_method_1_code 0 = .ok (.aload_n 0, 1) := by decide +kernel
theorem own_d_prog_211_method_1_code_1 : decode prog_211_method_1_code 1 = .ok (.invokespecial 1, 3) := by decide +kernel
theorem own_d_prog_211_method_1_code_4 : decode prog_211_method_1_code 4 = .ok (.aload_n 0, 1) := by decide +kernel
theorem own_d_prog_211_method_1_code_5 : decode prog_211_method_1_code 5 = .ok (.bipush 16, 2) := by decide +kernel
theorem own_d_prog_211_method_1_code_7 : decode prog_211_method_1_code 7 = .ok (.newarray .byte, 2) := by decide +kernel
theorem own_d_prog_211_method_1_code_9 : decode prog_211_method_1_code 9 = .ok (.putfield 7, 3) := by decide +kernel
theorem own_d_prog_211_method_1_code_12 : decode prog_211_method_1_code 12 = .ok (.aload_n 0, 1) := by decide +kernel
theorem own_d_prog_211_method_1_code_13 : decode prog_211_method_1_code 13 = .ok (.bipush 16, 2) := by decide +kernel
theorem own_d_prog_211_method_1_code_15 : decode prog_211_method_1_code 15 = .ok (.newarray .int, 2) := by decide +kernel
theorem own_d_prog_211_method_1_code_17 : decode prog_211_method_1_code 17 = .ok (.putfield 13, 3) := by decide +kernel
theorem own_d_prog_211_method_1_code_20 : decode prog_211_method_1_code 20 = .ok (.aload_n 0, 1) := by decide +kernel
theorem own_d_prog_211_method_1_code_21 : decode prog_211_method_1_code 21 = .ok (.bipush 16, 2) := by decide +kernel
theorem own_d_prog_211_method_1_code_23 : decode prog_211_method_1_code 23 = .ok (.newarray .int, 2) := by decide +kernel
theorem own_d_prog_211_method_1_code_25 : decode prog_211_method_1_code 25 = .ok (.putfield 17, 3) := by decide +kernel
theorem own_d_prog_211_method_1_code_28 : decode prog_211_method_1_code 28 = .ok (.aload_n 0, 1) := by decide +kernel
theorem own_d_prog_211_method_1_code_29 : decode prog_211_method_1_code 29 = .ok (.bipush 16, 2) := by decide +kernel
theorem own_d_prog_211_method_1_code_31 : decode prog_211_method_1_code 31 = .ok (.anewarray 20, 3) := by decide +kernel
theorem own_d_prog_211_method_1_code_34 : decode prog_211_method_1_code 34 = .ok (.putfield 22, 3) := by decide +kernel
theorem own_d_prog_211_method_1_code_37 : decode prog_211_method_1_code 37 = .ok (.aload_n 0, 1) := by decide +kernel
theorem own_d_prog_211_method_1_code_38 : decode prog_211_method_1_code 38 = .ok (.bipush 16, 2) := by decide +kernel
theorem own_d_prog_211_method_1_code_40 : decode prog_211_method_1_code 40 = .ok (.anewarray 26, 3) := by decide +kernel
theorem own_d_prog_211_method_1_code_43 : decode prog_211_method_1_code 43 = .ok (.putfield 28, 3) := by decide +kernel
theorem own_d_prog_211_method_1_code_46 : decode prog_211_method_1_code 46 = .ok (.aload_n 0, 1) := by decide +kernel
theorem own_d_prog_211_method_1_code_47 : decode prog_211_method_1_code 47 = .ok (.bipush 16, 2) := by decide +kernel
theorem own_d_prog_211_method_1_code_49 : decode prog_211_method_1_code 49 = .ok (.anewarray 32, 3) := by decide +kernel
theorem own_d_prog_211_method_1_code_52 : decode prog_211_method_1_code 52 = .ok (.putfield 34, 3) := by decide +kernel
theorem own_d_prog_211_method_1_code_55 : decode prog_211_method_1_code 55 = .ok (.aload_n 0, 1) := by decide +kernel
theorem own_d_prog_211_method_1_code_56 : decode prog_211_method_1_code 56 = .ok (.lload_n 1, 1) := by decide +kernel
theorem own_d_prog_211_method_1_code_57 : decode prog_211_method_1_code 57 = .ok (.putfield 38, 3) := by decide +kernel
theorem own_d_prog_211_method_1_code_60 : decode prog_211_method_1_code 60 = .ok (.aload_n 0, 1) := by decide +kernel
theorem own_d_prog_211_method_1_code_61 : decode prog_211_method_1_code 61 = .ok (.lload_n 3, 1) := by decide +kernel
theorem own_d_prog_211_method_1_code_62 : decode prog_211_method_1_code 62 = .ok (.putfield 42, 3) := by decide +kernel
theorem own_d_prog_211_method_1_code_65 : decode prog_211_method_1_code 65 = .ok (.aload_n 0, 1) := by decide +kernel
theorem own_d_prog_211_method_1_code_66 : decode prog_211_method_1_code 66 = .ok (.new 45, 3) := by decide +kernel
theorem own_d_prog_211_method_1_code_69 : decode prog_211_method_1_code 69 = .ok (.dup, 1) := by decide +kernel
theorem own_d_prog_211_method_1_code_70 : decode prog_211_method_1_code 70 = .ok (.aload_n 0, 1) := by decide +kernel
theorem own_d_prog_211_method_1_code_71 : decode prog_211_method_1_code 71 = .ok (.iconst 0, 1) := by decide +kernel
theorem own_d_prog_211_method_1_code_72 : decode prog_211_method_1_code 72 = .ok (.invokespecial 47, 3) := by decide +kernel
theorem own_d_prog_211_method_1_code_75 : decode prog_211_method_1_code 75 = .ok (.putfield 50, 3) := by decide +kernel
theorem own_d_prog_211_method_1_code_78 : decode prog_211_method_1_code 78 = .ok (.return_, 1) := by decide +kernel
theorem own_pn4 : plainFor (⟨"com/example/treeloom/treeloom/xdm/Tree", "<init>", "(JJ)V"⟩ : MethodName) = true := by decide +kernel
theorem own_pd2 : parseMethodDescriptor "(Lcom/example/treeloom/treeloom/xdm/Tree;I)V" = some ⟨[(.object "com/example/treeloom/treeloom/xdm/Tree"), .int], none⟩ := by decide +kernel
def own_rm_tree_Q (Z : State) (r : Addr) (q1 : Int64) (q2 : Int64) (h0 : Heap) (n0 : Nat) (v : Option Value) (h : Heap) (L : List Loc) : Prop := ∃ n2 : Addr, Fr n0 L ∧ v = none ∧ Keep h0 h [r] ∧ h0.size ≤ n2 ∧ Exa Z h r "com/example/treeloom/treeloom/xdm/Tree" ∧ Fld Z h r "com/example/treeloom/treeloom/xdm/Tree" "root" "Lcom/example/treeloom/treeloom/xdm/Node;" (.ref n2) ∧ Exa Z h n2 "com/example/treeloom/treeloom/xdm/Node" ∧ Fld Z h n2 "com/example/treeloom/treeloom/xdm/Node" "tree" "Lcom/example/treeloom/treeloom/xdm/Tree;" (.ref r) ∧ Fld Z h n2 "com/example/treeloom/treeloom/xdm/Node" "index" "I" (.int (0 : Int32))
theorem own_rm_tree_ef (m : MethodId) (r : Addr) (q1 : Int64) (q2 : Int64)  : entryFrame m #[(.ref r), (.long q1), (.long q2)] 5 = mkF m 0 #[.val (.ref r), .val (.long q1), .second, .val (.long q2), .second] [] := by first | (simp [entryFrame, mkF, argsToLocals, Value.category]; done) | rfl
set_option maxRecDepth 65536 in
set_option maxHeartbeats 40000000 in
theorem own_rm_tree (l : Launch) (Z : State) (a0 : Array Value) (hw : ∀ d ∈ tables_1, d.before a0 Z = true) (ws : List Jvm.Cond) (r : Addr) (q1 : Int64) (q2 : Int64) (h0 : Heap) (n0 : Nat) (Z0 : n0 ≤ h0.size) (E1 : Exa Z h0 r "com/example/treeloom/treeloom/xdm/Tree") (F0 : Fld Z h0 r "com/example/treeloom/treeloom/xdm/Tree" "kinds" "[B" .null) (F1 : Fld Z h0 r "com/example/treeloom/treeloom/xdm/Tree" "parents" "[I" .null) (F2 : Fld Z h0 r "com/example/treeloom/treeloom/xdm/Tree" "ends" "[I" .null) (F3 : Fld Z h0 r "com/example/treeloom/treeloom/xdm/Tree" "names" "[Lcom/example/treeloom/treeloom/xdm/QName;" .null) (F4 : Fld Z h0 r "com/example/treeloom/treeloom/xdm/Tree" "values" "[Ljava/lang/String;" .null) (F5 : Fld Z h0 r "com/example/treeloom/treeloom/xdm/Tree" "declarations" "[[Lcom/example/treeloom/treeloom/xdm/NamespaceBinding;" .null) (F6 : Fld Z h0 r "com/example/treeloom/treeloom/xdm/Tree" "place" "J" (.long (0 : Int64))) (F7 : Fld Z h0 r "com/example/treeloom/treeloom/xdm/Tree" "serial" "J" (.long (0 : Int64))) (F8 : Fld Z h0 r "com/example/treeloom/treeloom/xdm/Tree" "root" "Lcom/example/treeloom/treeloom/xdm/Node;" .null) (g1 : n0 ≤ r) :
    MetFree l (⟨"com/example/treeloom/treeloom/xdm/Tree", "<init>", "(JJ)V"⟩ : MethodName) (head1 (Jvm.Cond.code (⟨"com/example/treeloom/treeloom/xdm/Tree", "<init>", "(JJ)V"⟩ : MethodName) prog_211_method_1_code 5 none :: ws) ({ frames := 2, cells := 7, slots := 98, locals := 28 } : Room)) (fun a U => a = #[(.ref r), (.long q1), (.long q2)] ∧ Z.Warmed39 U.vm ∧ U.heap = h0) (fun _ _ _ _ _ => True) (fun _ U o U' => ∃ v L, o = .returned v ∧ own_rm_tree_Q Z r q1 q2 h0 n0 v U'.heap L ∧ FrameEnd U o U' L ({ frames := 2, cells := 7, slots := 98, locals := 28 } : Room).cells ({ frames := 2, cells := 7, slots := 98, locals := 28 } : Room).slots) := by
  refine MetFree.of_bodySF own_pn4 hisR ?_
  intro p e s m args below meth c s₁ Bd hml0 hP hK
  obtain ⟨rfl, hZ, hh⟩ := hP
  have hx := Bd.exec
  have hby := Bd.bytes
  have hml : c.maxLocals = 5 := hml0
  have hlk := BodyLoose.notSynchronized Bd
  have hown : s.vm.findClass "com/example/treeloom/treeloom/xdm/Tree" = some m.cls := findClass_of_methodNamed Bd.named
  have hnm := (name_of_methodNamed Bd.named Bd.method).1
  have X0 : Stand p l e ({ frames := 2, cells := 7, slots := 98, locals := 28 } : Room) s m #[(.ref r), (.long q1), (.long q2)] below meth c s₁ [] 0 0 := Stand.of_body Bd
  have e0 : s₁.heap = h0 := by rw [← hh, Bd.state]; rfl
  have N0 := Fr.nil n0
  have Kp0 : Keep h0 h0 [r] := Keep.refl _ _
  show own_Go p e below s (own_rm_tree_Q Z r q1 q2 h0 n0) ({ frames := 2, cells := 7, slots := 98, locals := 28 } : Room).cells ({ frames := 2, cells := 7, slots := 98, locals := 28 } : Room).slots (s₁.setTop (entryFrame m #[(.ref r), (.long q1), (.long q2)] 5))
  rw [own_rm_tree_ef]
  show own_Go p e below s _ _ _ (s₁.setTop (mkF m 0 #[.val (.ref r), .val (.long q1), .second, .val (.long q2), .second] []))
  refine own_st (fun _ k => XS.aloadN X0.here hx rfl (hb hby own_d_prog_211_method_1_code_0) rfl rfl k) ?_
  show own_Go p e below s _ _ _ (s₁.setTop (mkF m 1 #[.val (.ref r), .val (.long q1), .second, .val (.long q2), .second] [(.ref r)]))
  obtain ⟨T57, X57, e57, st57⟩ := initO X0 hx hZ hown (hw _ (List.mem_of_getElem? (i := 6) rfl)) (hw _ (List.mem_of_getElem? (i := 7) rfl)) (hw _ (List.mem_of_getElem? (i := 8) rfl)) e0 (g := (mkF m 1 #[.val (.ref r), .val (.long q1), .second, .val (.long q2), .second] [(.ref r)])) rfl (by rw [hml]; rfl) rfl (hb hby own_d_prog_211_method_1_code_1) (by decide) (W := 0) (by show 2 * 0 + _ ≤ _; exact Nat.le_of_eq rfl) (by decide)
  refine own_st st57 ?_
  show own_Go p e below s _ _ _ (T57.setTop (mkF m 4 #[.val (.ref r), .val (.long q1), .second, .val (.long q2), .second] []))
  refine own_st (fun _ k => XS.aloadN X57.here hx rfl (hb hby own_d_prog_211_method_1_code_4) rfl rfl k) ?_
  show own_Go p e below s _ _ _ (T57.setTop (mkF m 5 #[.val (.ref r), .val (.long q1), .second, .val (.long q2), .second] [(.ref r)]))
  refine own_st (fun _ k => XT.bipushV X57.here hx rfl (16 : Int32) (hb hby own_d_prog_211_method_1_code_5) (by decide) k) ?_
  show own_Go p e below s _ _ _ (T57.setTop (mkF m 7 #[.val (.ref r), .val (.long q1), .second, .val (.long q2), .second] [(.int (16 : Int32)), (.ref r)]))
  obtain ⟨T58, h58, k58, X58, e58, E58, A58, Ea58, st58⟩ := newPE X57 hx hZ (aty := .byte) (hw _ (List.mem_of_getElem? (i := 9) rfl)) e57 (g := (mkF m 7 #[.val (.ref r), .val (.long q1), .second, .val (.long q2), .second] [(.int (16 : Int32)), (.ref r)])) rfl (hb hby own_d_prog_211_method_1_code_7) rfl (by decide) (cap := 16) (by decide) (by decide) (by decide) (by decide) (ad := "[B") (by decide +kernel)
  obtain ⟨b58, g58⟩ : ∃ z, z = h0.size := ⟨_, rfl⟩
  rw [← g58] at A58 Ea58 st58
  refine own_st st58 ?_
  have Zs59 : n0 ≤ h58.size := Nat.le_trans Z0 E58.1
  have Kp60 : Keep h0 h58 [r] := Kp0.ext E58
  have g61 : n0 ≤ b58 := Nat.le_trans Z0 (Nat.le_of_eq g58.symm)
  have sz62 : h0.size ≤ b58 := Nat.le_trans Kp0.1 (Nat.le_of_eq g58.symm)
  have F63 : Arv Z h58 b58 k58 .byte (16 : Int32) [(.int (0 : Int32)), (.int (0 : Int32)), (.int (0 : Int32)), (.int (0 : Int32)), (.int (0 : Int32)), (.int (0 : Int32)), (.int (0 : Int32)), (.int (0 : Int32)), (.int (0 : Int32)), (.int (0 : Int32)), (.int (0 : Int32)), (.int (0 : Int32)), (.int (0 : Int32)), (.int (0 : Int32)), (.int (0 : Int32)), (.int (0 : Int32))] (.int (0 : Int32)) := (Arv.new A58 (by decide)).pad (fun i => own_pad 16 _ i)
  show own_Go p e below s _ _ _ (T58.setTop (mkF m 9 #[.val (.ref r), .val (.long q1), .second, .val (.long q2), .second] [(.ref b58), (.ref r)]))
  have F64 : Fld Z h58 r "com/example/treeloom/treeloom/xdm/Tree" "kinds" "[B" .null := (F0.ext E58)
  have F65 : Exa Z h58 r "com/example/treeloom/treeloom/xdm/Tree" := (E1.ext E58)
  obtain ⟨T66, h66, X66, e66, W66, st66⟩ := putF X58 hx hZ hown (host := "") (Or.inl (hw _ (List.mem_of_getElem? (i := 10) rfl))) Via.refl e58 F64 F65 (Or.inl (hw _ (List.mem_of_getElem? (i := 11) rfl))) (hw _ (List.mem_of_getElem? (i := 1) rfl)) (ty := (.array .byte)) (by decide) rfl rfl (g := (mkF m 9 #[.val (.ref r), .val (.long q1), .second, .val (.long q2), .second] [(.ref b58), (.ref r)])) rfl rfl (hb hby own_d_prog_211_method_1_code_9)
  refine own_st st66 ?_
  have N67 := Fr.snoc X66 N0 g1
  have F68 : Fld Z h66 r "com/example/treeloom/treeloom/xdm/Tree" "kinds" "[B" (.ref b58) := F64.same W66
  have Zs69 : n0 ≤ h66.size := Nat.le_trans Zs59 (Nat.le_of_eq W66.size.symm)
  have Kp70 : Keep h0 h66 [r] := Kp60.wr W66 (Or.inl (List.mem_of_getElem? (i := 0) rfl))
  show own_Go p e below s _ _ _ (T66.setTop (mkF m 12 #[.val (.ref r), .val (.long q1), .second, .val (.long q2), .second] []))
  refine own_st (fun _ k => XS.aloadN X66.here hx rfl (hb hby own_d_prog_211_method_1_code_12) rfl rfl k) ?_
  show own_Go p e below s _ _ _ (T66.setTop (mkF m 13 #[.val (.ref r), .val (.long q1), .second, .val (.long q2), .second] [(.ref r)]))
  refine own_st (fun _ k => XT.bipushV X66.here hx rfl (16 : Int32) (hb hby own_d_prog_211_method_1_code_13) (by decide) k) ?_
  show own_Go p e below s _ _ _ (T66.setTop (mkF m 15 #[.val (.ref r), .val (.long q1), .second, .val (.long q2), .second] [(.int (16 : Int32)), (.ref r)]))
  obtain ⟨T71, h71, k71, X71, e71, E71, A71, Ea71, st71⟩ := newPE X66 hx hZ (aty := .int) (hw _ (List.mem_of_getElem? (i := 12) rfl)) e66 (g := (mkF m 15 #[.val (.ref r), .val (.long q1), .second, .val (.long q2), .second] [(.int (16 : Int32)), (.ref r)])) rfl (hb hby own_d_prog_211_method_1_code_15) rfl (by decide) (cap := 16) (by decide) (by decide) (by decide) (by decide) (ad := "[I") (by decide +kernel)
  obtain ⟨b71, g71⟩ : ∃ z, z = h66.size := ⟨_, rfl⟩
  rw [← g71] at A71 Ea71 st71
  refine own_st st71 ?_
  have Zs72 : n0 ≤ h71.size := Nat.le_trans Zs69 E71.1
  have Kp73 : Keep h0 h71 [r] := Kp70.ext E71
  have g74 : n0 ≤ b71 := Nat.le_trans Zs69 (Nat.le_of_eq g71.symm)
  have sz75 : h0.size ≤ b71 := Nat.le_trans Kp70.1 (Nat.le_of_eq g71.symm)
  have F76 : Arv Z h71 b71 k71 .int (16 : Int32) [(.int (0 : Int32)), (.int (0 : Int32)), (.int (0 : Int32)), (.int (0 : Int32)), (.int (0 : Int32)), (.int (0 : Int32)), (.int (0 : Int32)), (.int (0 : Int32)), (.int (0 : Int32)), (.int (0 : Int32)), (.int (0 : Int32)), (.int (0 : Int32)), (.int (0 : Int32)), (.int (0 : Int32)), (.int (0 : Int32)), (.int (0 : Int32))] (.int (0 : Int32)) := (Arv.new A71 (by decide)).pad (fun i => own_pad 16 _ i)
  show own_Go p e below s _ _ _ (T71.setTop (mkF m 17 #[.val (.ref r), .val (.long q1), .second, .val (.long q2), .second] [(.ref b71), (.ref r)]))
  have F77 : Fld Z h71 r "com/example/treeloom/treeloom/xdm/Tree" "parents" "[I" .null := (((F1.ext E58).other W66 (Or.inr (slot_ne (Or.inl (hw _ (List.mem_of_getElem? (i := 14) rfl))) (Or.inl (hw _ (List.mem_of_getElem? (i := 11) rfl))) (by decide) (t := (.array .int)) (t' := (.array .byte)) (by decide) (by decide)))).ext E71)
  have F78 : Exa Z h71 r "com/example/treeloom/treeloom/xdm/Tree" := ((F65.wr W66).ext E71)
  obtain ⟨T79, h79, X79, e79, W79, st79⟩ := putF X71 hx hZ hown (host := "") (Or.inl (hw _ (List.mem_of_getElem? (i := 13) rfl))) Via.refl e71 F77 F78 (Or.inl (hw _ (List.mem_of_getElem? (i := 14) rfl))) (hw _ (List.mem_of_getElem? (i := 1) rfl)) (ty := (.array .int)) (by decide) rfl rfl (g := (mkF m 17 #[.val (.ref r), .val (.long q1), .second, .val (.long q2), .second] [(.ref b71), (.ref r)])) rfl rfl (hb hby own_d_prog_211_method_1_code_17)
  refine own_st st79 ?_
  have N80 := Fr.snoc X79 N67 g1
  have F81 : Fld Z h79 r "com/example/treeloom/treeloom/xdm/Tree" "parents" "[I" (.ref b71) := F77.same W79
  have Zs82 : n0 ≤ h79.size := Nat.le_trans Zs72 (Nat.le_of_eq W79.size.symm)
  have Kp83 : Keep h0 h79 [r] := Kp73.wr W79 (Or.inl (List.mem_of_getElem? (i := 0) rfl))
  show own_Go p e below s _ _ _ (T79.setTop (mkF m 20 #[.val (.ref r), .val (.long q1), .second, .val (.long q2), .second] []))
  refine own_st (fun _ k => XS.aloadN X79.here hx rfl (hb hby own_d_prog_211_method_1_code_20) rfl rfl k) ?_
  show own_Go p e below s _ _ _ (T79.setTop (mkF m 21 #[.val (.ref r), .val (.long q1), .second, .val (.long q2), .second] [(.ref r)]))
  refine own_st (fun _ k => XT.bipushV X79.here hx rfl (16 : Int32) (hb hby own_d_prog_211_method_1_code_21) (by decide) k) ?_
  show own_Go p e below s _ _ _ (T79.setTop (mkF m 23 #[.val (.ref r), .val (.long q1), .second, .val (.long q2), .second] [(.int (16 : Int32)), (.ref r)]))
  obtain ⟨T84, h84, k84, X84, e84, E84, A84, Ea84, st84⟩ := newPE X79 hx hZ (aty := .int) (hw _ (List.mem_of_getElem? (i := 12) rfl)) e79 (g := (mkF m 23 #[.val (.ref r), .val (.long q1), .second, .val (.long q2), .second] [(.int (16 : Int32)), (.ref r)])) rfl (hb hby own_d_prog_211_method_1_code_23) rfl (by decide) (cap := 16) (by decide) (by decide) (by decide) (by decide) (ad := "[I") (by decide +kernel)
  obtain ⟨b84, g84⟩ : ∃ z, z = h79.size := ⟨_, rfl⟩
  rw [← g84] at A84 Ea84 st84
  refine own_st st84 ?_
  have Zs85 : n0 ≤ h84.size := Nat.le_trans Zs82 E84.1
  have Kp86 : Keep h0 h84 [r] := Kp83.ext E84
  have g87 : n0 ≤ b84 := Nat.le_trans Zs82 (Nat.le_of_eq g84.symm)
  have sz88 : h0.size ≤ b84 := Nat.le_trans Kp83.1 (Nat.le_of_eq g84.symm)
  have F89 : Arv Z h84 b84 k84 .int (16 : Int32) [(.int (0 : Int32)), (.int (0 : Int32)), (.int (0 : Int32)), (.int (0 : Int32)), (.int (0 : Int32)), (.int (0 : Int32)), (.int (0 : Int32)), (.int (0 : Int32)), (.int (0 : Int32)), (.int (0 : Int32)), (.int (0 : Int32)), (.int (0 : Int32)), (.int (0 : Int32)), (.int (0 : Int32)), (.int (0 : Int32)), (.int (0 : Int32))] (.int (0 : Int32)) := (Arv.new A84 (by decide)).pad (fun i => own_pad 16 _ i)
  show own_Go p e below s _ _ _ (T84.setTop (mkF m 25 #[.val (.ref r), .val (.long q1), .second, .val (.long q2), .second] [(.ref b84), (.ref r)]))
  have F90 : Fld Z h84 r "com/example/treeloom/treeloom/xdm/Tree" "ends" "[I" .null := (((((F2.ext E58).other W66 (Or.inr (slot_ne (Or.inl (hw _ (List.mem_of_getElem? (i := 16) rfl))) (Or.inl (hw _ (List.mem_of_getElem? (i := 11) rfl))) (by decide) (t := (.array .int)) (t' := (.array .byte)) (by decide) (by decide)))).ext E71).other W79 (Or.inr (slot_ne (Or.inl (hw _ (List.mem_of_getElem? (i := 16) rfl))) (Or.inl (hw _ (List.mem_of_getElem? (i := 14) rfl))) (by decide) (t := (.array .int)) (t' := (.array .int)) (by decide) (by decide)))).ext E84)
  have F91 : Exa Z h84 r "com/example/treeloom/treeloom/xdm/Tree" := ((F78.wr W79).ext E84)
  obtain ⟨T92, h92, X92, e92, W92, st92⟩ := putF X84 hx hZ hown (host := "") (Or.inl (hw _ (List.mem_of_getElem? (i := 15) rfl))) Via.refl e84 F90 F91 (Or.inl (hw _ (List.mem_of_getElem? (i := 16) rfl))) (hw _ (List.mem_of_getElem? (i := 1) rfl)) (ty := (.array .int)) (by decide) rfl rfl (g := (mkF m 25 #[.val (.ref r), .val (.long q1), .second, .val (.long q2), .second] [(.ref b84), (.ref r)])) rfl rfl (hb hby own_d_prog_211_method_1_code_25)
  refine own_st st92 ?_
  have N93 := Fr.snoc X92 N80 g1
  have F94 : Fld Z h92 r "com/example/treeloom/treeloom/xdm/Tree" "ends" "[I" (.ref b84) := F90.same W92
  have Zs95 : n0 ≤ h92.size := Nat.le_trans Zs85 (Nat.le_of_eq W92.size.symm)
  have Kp96 : Keep h0 h92 [r] := Kp86.wr W92 (Or.inl (List.mem_of_getElem? (i := 0) rfl))
  show own_Go p e below s _ _ _ (T92.setTop (mkF m 28 #[.val (.ref r), .val (.long q1), .second, .val (.long q2), .second] []))
  refine own_st (fun _ k => XS.aloadN X92.here hx rfl (hb hby own_d_prog_211_method_1_code_28) rfl rfl k) ?_
  show own_Go p e below s _ _ _ (T92.setTop (mkF m 29 #[.val (.ref r), .val (.long q1), .second, .val (.long q2), .second] [(.ref r)]))
  refine own_st (fun _ k => XT.bipushV X92.here hx rfl (16 : Int32) (hb hby own_d_prog_211_method_1_code_29) (by decide) k) ?_
  show own_Go p e below s _ _ _ (T92.setTop (mkF m 31 #[.val (.ref r), .val (.long q1), .second, .val (.long q2), .second] [(.int (16 : Int32)), (.ref r)]))
  obtain ⟨T97, h97, k97, X97, e97, E97, A97, O97, st97⟩ := newR X92 hx hZ hown (hw _ (List.mem_of_getElem? (i := 17) rfl)) (hw _ (List.mem_of_getElem? (i := 18) rfl)) e92 (g := (mkF m 31 #[.val (.ref r), .val (.long q1), .second, .val (.long q2), .second] [(.int (16 : Int32)), (.ref r)])) rfl (hb hby own_d_prog_211_method_1_code_31) rfl (by decide) (cap := 16) (by decide) (by decide) (by decide) (by decide)
  obtain ⟨b97, g97⟩ : ∃ z, z = h92.size := ⟨_, rfl⟩
  rw [← g97] at A97 st97
  refine own_st st97 ?_
  have Zs98 : n0 ≤ h97.size := Nat.le_trans Zs95 E97.1
  have Kp99 : Keep h0 h97 [r] := Kp96.ext E97
  have g100 : n0 ≤ b97 := Nat.le_trans Zs95 (Nat.le_of_eq g97.symm)
  have sz101 : h0.size ≤ b97 := Nat.le_trans Kp96.1 (Nat.le_of_eq g97.symm)
  have F102 : Arv Z h97 b97 k97 (.object "com/example/treeloom/treeloom/xdm/QName") (16 : Int32) [.null, .null, .null, .null, .null, .null, .null, .null, .null, .null, .null, .null, .null, .null, .null, .null] .null := (Arv.new A97 (by decide)).pad (fun i => own_pad 16 _ i)
  show own_Go p e below s _ _ _ (T97.setTop (mkF m 34 #[.val (.ref r), .val (.long q1), .second, .val (.long q2), .second] [(.ref b97), (.ref r)]))
  have F103 : Fld Z h97 r "com/example/treeloom/treeloom/xdm/Tree" "names" "[Lcom/example/treeloom/treeloom/xdm/QName;" .null := (((((((F3.ext E58).other W66 (Or.inr (slot_ne (Or.inl (hw _ (List.mem_of_getElem? (i := 20) rfl))) (Or.inl (hw _ (List.mem_of_getElem? (i := 11) rfl))) (by decide) (t := (.array (.object "com/example/treeloom/treeloom/xdm/QName"))) (t' := (.array .byte)) (by decide) (by decide)))).ext E71).other W79 (Or.inr (slot_ne (Or.inl (hw _ (List.mem_of_getElem? (i := 20) rfl))) (Or.inl (hw _ (List.mem_of_getElem? (i := 14) rfl))) (by decide) (t := (.array (.object "com/example/treeloom/treeloom/xdm/QName"))) (t' := (.array .int)) (by decide) (by decide)))).ext E84).other W92 (Or.inr (slot_ne (Or.inl (hw _ (List.mem_of_getElem? (i := 20) rfl))) (Or.inl (hw _ (List.mem_of_getElem? (i := 16) rfl))) (by decide) (t := (.array (.object "com/example/treeloom/treeloom/xdm/QName"))) (t' := (.array .int)) (by decide) (by decide)))).ext E97)
  have F104 : Exa Z h97 r "com/example/treeloom/treeloom/xdm/Tree" := ((F91.wr W92).ext E97)
  obtain ⟨T105, h105, X105, e105, W105, st105⟩ := putF X97 hx hZ hown (host := "") (Or.inl (hw _ (List.mem_of_getElem? (i := 19) rfl))) Via.refl e97 F103 F104 (Or.inl (hw _ (List.mem_of_getElem? (i := 20) rfl))) (hw _ (List.mem_of_getElem? (i := 1) rfl)) (ty := (.array (.object "com/example/treeloom/treeloom/xdm/QName"))) (by decide) rfl rfl (g := (mkF m 34 #[.val (.ref r), .val (.long q1), .second, .val (.long q2), .second] [(.ref b97), (.ref r)])) rfl rfl (hb hby own_d_prog_211_method_1_code_34)
  refine own_st st105 ?_
  have N106 := Fr.snoc X105 N93 g1
  have F107 : Fld Z h105 r "com/example/treeloom/treeloom/xdm/Tree" "names" "[Lcom/example/treeloom/treeloom/xdm/QName;" (.ref b97) := F103.same W105
  have Zs108 : n0 ≤ h105.size := Nat.le_trans Zs98 (Nat.le_of_eq W105.size.symm)
  have Kp109 : Keep h0 h105 [r] := Kp99.wr W105 (Or.inl (List.mem_of_getElem? (i := 0) rfl))
  show own_Go p e below s _ _ _ (T105.setTop (mkF m 37 #[.val (.ref r), .val (.long q1), .second, .val (.long q2), .second] []))
  refine own_st (fun _ k => XS.aloadN X105.here hx rfl (hb hby own_d_prog_211_method_1_code_37) rfl rfl k) ?_
  show own_Go p e below s _ _ _ (T105.setTop (mkF m 38 #[.val (.ref r), .val (.long q1), .second, .val (.long q2), .second] [(.ref r)]))
  refine own_st (fun _ k => XT.bipushV X105.here hx rfl (16 : Int32) (hb hby own_d_prog_211_method_1_code_38) (by decide) k) ?_
  show own_Go p e below s _ _ _ (T105.setTop (mkF m 40 #[.val (.ref r), .val (.long q1), .second, .val (.long q2), .second] [(.int (16 : Int32)), (.ref r)]))
  obtain ⟨T110, h110, k110, X110, e110, E110, A110, O110, st110⟩ := newR X105 hx hZ hown (hw _ (List.mem_of_getElem? (i := 21) rfl)) (hw _ (List.mem_of_getElem? (i := 22) rfl)) e105 (g := (mkF m 40 #[.val (.ref r), .val (.long q1), .second, .val (.long q2), .second] [(.int (16 : Int32)), (.ref r)])) rfl (hb hby own_d_prog_211_method_1_code_40) rfl (by decide) (cap := 16) (by decide) (by decide) (by decide) (by decide)
  obtain ⟨b110, g110⟩ : ∃ z, z = h105.size := ⟨_, rfl⟩
  rw [← g110] at A110 st110
  refine own_st st110 ?_
  have Zs111 : n0 ≤ h110.size := Nat.le_trans Zs108 E110.1
  have Kp112 : Keep h0 h110 [r] := Kp109.ext E110
  have g113 : n0 ≤ b110 := Nat.le_trans Zs108 (Nat.le_of_eq g110.symm)
  have sz114 : h0.size ≤ b110 := Nat.le_trans Kp109.1 (Nat.le_of_eq g110.symm)
  have F115 : Arv Z h110 b110 k110 (.object "java/lang/String") (16 : Int32) [.null, .null, .null, .null, .null, .null, .null, .null, .null, .null, .null, .null, .null, .null, .null, .null] .null := (Arv.new A110 (by decide)).pad (fun i => own_pad 16 _ i)
  show own_Go p e below s _ _ _ (T110.setTop (mkF m 43 #[.val (.ref r), .val (.long q1), .second, .val (.long q2), .second] [(.ref b110), (.ref r)]))
  have F116 : Fld Z h110 r "com/example/treeloom/treeloom/xdm/Tree" "values" "[Ljava/lang/String;" .null := (((((((((F4.ext E58).other W66 (Or.inr (slot_ne (Or.inl (hw _ (List.mem_of_getElem? (i := 24) rfl))) (Or.inl (hw _ (List.mem_of_getElem? (i := 11) rfl))) (by decide) (t := (.array (.object "java/lang/String"))) (t' := (.array .byte)) (by decide) (by decide)))).ext E71).other W79 (Or.inr (slot_ne (Or.inl (hw _ (List.mem_of_getElem? (i := 24) rfl))) (Or.inl (hw _ (List.mem_of_getElem? (i := 14) rfl))) (by decide) (t := (.array (.object "java/lang/String"))) (t' := (.array .int)) (by decide) (by decide)))).ext E84).other W92 (Or.inr (slot_ne (Or.inl (hw _ (List.mem_of_getElem? (i := 24) rfl))) (Or.inl (hw _ (List.mem_of_getElem? (i := 16) rfl))) (by decide) (t := (.array (.object "java/lang/String"))) (t' := (.array .int)) (by decide) (by decide)))).ext E97).other W105 (Or.inr (slot_ne (Or.inl (hw _ (List.mem_of_getElem? (i := 24) rfl))) (Or.inl (hw _ (List.mem_of_getElem? (i := 20) rfl))) (by decide) (t := (.array (.object "java/lang/String"))) (t' := (.array (.object "com/example/treeloom/treeloom/xdm/QName"))) (by decide) (by decide)))).ext E110)
  have F117 : Exa Z h110 r "com/example/treeloom/treeloom/xdm/Tree" := ((F104.wr W105).ext E110)
  obtain ⟨T118, h118, X118, e118, W118, st118⟩ := putF X110 hx hZ hown (host := "") (Or.inl (hw _ (List.mem_of_getElem? (i := 23) rfl))) Via.refl e110 F116 F117 (Or.inl (hw _ (List.mem_of_getElem? (i := 24) rfl))) (hw _ (List.mem_of_getElem? (i := 1) rfl)) (ty := (.array (.object "java/lang/String"))) (by decide) rfl rfl (g := (mkF m 43 #[.val (.ref r), .val (.long q1), .second, .val (.long q2), .second] [(.ref b110), (.ref r)])) rfl rfl (hb hby own_d_prog_211_method_1_code_43)
  refine own_st st118 ?_
  have N119 := Fr.snoc X118 N106 g1
  have F120 : Fld Z h118 r "com/example/treeloom/treeloom/xdm/Tree" "values" "[Ljava/lang/String;" (.ref b110) := F116.same W118
  have Zs121 : n0 ≤ h118.size := Nat.le_trans Zs111 (Nat.le_of_eq W118.size.symm)
  have Kp122 : Keep h0 h118 [r] := Kp112.wr W118 (Or.inl (List.mem_of_getElem? (i := 0) rfl))
  show own_Go p e below s _ _ _ (T118.setTop (mkF m 46 #[.val (.ref r), .val (.long q1), .second, .val (.long q2), .second] []))
  refine own_st (fun _ k => XS.aloadN X118.here hx rfl (hb hby own_d_prog_211_method_1_code_46) rfl rfl k) ?_
  show own_Go p e below s _ _ _ (T118.setTop (mkF m 47 #[.val (.ref r), .val (.long q1), .second, .val (.long q2), .second] [(.ref r)]))
  refine own_st (fun _ k => XT.bipushV X118.here hx rfl (16 : Int32) (hb hby own_d_prog_211_method_1_code_47) (by decide) k) ?_
  show own_Go p e below s _ _ _ (T118.setTop (mkF m 49 #[.val (.ref r), .val (.long q1), .second, .val (.long q2), .second] [(.int (16 : Int32)), (.ref r)]))
  obtain ⟨T123, h123, k123, X123, e123, E123, A123, Ea123, O123, st123⟩ := newRA X118 hx hZ hown (C := "[Lcom/example/treeloom/treeloom/xdm/NamespaceBinding;") (ty := (.object "com/example/treeloom/treeloom/xdm/NamespaceBinding")) (by decide +kernel) (hw _ (List.mem_of_getElem? (i := 25) rfl)) (hw _ (List.mem_of_getElem? (i := 26) rfl)) e118 (g := (mkF m 49 #[.val (.ref r), .val (.long q1), .second, .val (.long q2), .second] [(.int (16 : Int32)), (.ref r)])) rfl (hb hby own_d_prog_211_method_1_code_49) rfl (by decide) (cap := 16) (by decide) (by decide) (by decide) (by decide) (ad := "[[Lcom/example/treeloom/treeloom/xdm/NamespaceBinding;") (by decide +kernel)
  obtain ⟨b123, g123⟩ : ∃ z, z = h118.size := ⟨_, rfl⟩
  rw [← g123] at A123 st123
  refine own_st st123 ?_
  have Zs124 : n0 ≤ h123.size := Nat.le_trans Zs121 E123.1
  have Kp125 : Keep h0 h123 [r] := Kp122.ext E123
  have g126 : n0 ≤ b123 := Nat.le_trans Zs121 (Nat.le_of_eq g123.symm)
  have sz127 : h0.size ≤ b123 := Nat.le_trans Kp122.1 (Nat.le_of_eq g123.symm)
  have F128 : Arv Z h123 b123 k123 (.array (.object "com/example/treeloom/treeloom/xdm/NamespaceBinding")) (16 : Int32) [.null, .null, .null, .null, .null, .null, .null, .null, .null, .null, .null, .null, .null, .null, .null, .null] .null := (Arv.new A123 (by decide)).pad (fun i => own_pad 16 _ i)
  show own_Go p e below s _ _ _ (T123.setTop (mkF m 52 #[.val (.ref r), .val (.long q1), .second, .val (.long q2), .second] [(.ref b123), (.ref r)]))
  have F129 : Fld Z h123 r "com/example/treeloom/treeloom/xdm/Tree" "declarations" "[[Lcom/example/treeloom/treeloom/xdm/NamespaceBinding;" .null := (((((((((((F5.ext E58).other W66 (Or.inr (slot_ne (Or.inl (hw _ (List.mem_of_getElem? (i := 28) rfl))) (Or.inl (hw _ (List.mem_of_getElem? (i := 11) rfl))) (by decide) (t := (.array (.array (.object "com/example/treeloom/treeloom/xdm/NamespaceBinding")))) (t' := (.array .byte)) (by decide) (by decide)))).ext E71).other W79 (Or.inr (slot_ne (Or.inl (hw _ (List.mem_of_getElem? (i := 28) rfl))) (Or.inl (hw _ (List.mem_of_getElem? (i := 14) rfl))) (by decide) (t := (.array (.array (.object "com/example/treeloom/treeloom/xdm/NamespaceBinding")))) (t' := (.array .int)) (by decide) (by decide)))).ext E84).other W92 (Or.inr (slot_ne (Or.inl (hw _ (List.mem_of_getElem? (i := 28) rfl))) (Or.inl (hw _ (List.mem_of_getElem? (i := 16) rfl))) (by decide) (t := (.array (.array (.object "com/example/treeloom/treeloom/xdm/NamespaceBinding")))) (t' := (.array .int)) (by decide) (by decide)))).ext E97).other W105 (Or.inr (slot_ne (Or.inl (hw _ (List.mem_of_getElem? (i := 28) rfl))) (Or.inl (hw _ (List.mem_of_getElem? (i := 20) rfl))) (by decide) (t := (.array (.array (.object "com/example/treeloom/treeloom/xdm/NamespaceBinding")))) (t' := (.array (.object "com/example/treeloom/treeloom/xdm/QName"))) (by decide) (by decide)))).ext E110).other W118 (Or.inr (slot_ne (Or.inl (hw _ (List.mem_of_getElem? (i := 28) rfl))) (Or.inl (hw _ (List.mem_of_getElem? (i := 24) rfl))) (by decide) (t := (.array (.array (.object "com/example/treeloom/treeloom/xdm/NamespaceBinding")))) (t' := (.array (.object "java/lang/String"))) (by decide) (by decide)))).ext E123)
  have F130 : Exa Z h123 r "com/example/treeloom/treeloom/xdm/Tree" := ((F117.wr W118).ext E123)
  obtain ⟨T131, h131, X131, e131, W131, st131⟩ := putF X123 hx hZ hown (host := "") (Or.inl (hw _ (List.mem_of_getElem? (i := 27) rfl))) Via.refl e123 F129 F130 (Or.inl (hw _ (List.mem_of_getElem? (i := 28) rfl))) (hw _ (List.mem_of_getElem? (i := 1) rfl)) (ty := (.array (.array (.object "com/example/treeloom/treeloom/xdm/NamespaceBinding")))) (by decide) rfl rfl (g := (mkF m 52 #[.val (.ref r), .val (.long q1), .second, .val (.long q2), .second] [(.ref b123), (.ref r)])) rfl rfl (hb hby own_d_prog_211_method_1_code_52)
  refine own_st st131 ?_
  have N132 := Fr.snoc X131 N119 g1
  have F133 : Fld Z h131 r "com/example/treeloom/treeloom/xdm/Tree" "declarations" "[[Lcom/example/treeloom/treeloom/xdm/NamespaceBinding;" (.ref b123) := F129.same W131
  have Zs134 : n0 ≤ h131.size := Nat.le_trans Zs124 (Nat.le_of_eq W131.size.symm)
  have Kp135 : Keep h0 h131 [r] := Kp125.wr W131 (Or.inl (List.mem_of_getElem? (i := 0) rfl))
  show own_Go p e below s _ _ _ (T131.setTop (mkF m 55 #[.val (.ref r), .val (.long q1), .second, .val (.long q2), .second] []))
  refine own_st (fun _ k => XS.aloadN X131.here hx rfl (hb hby own_d_prog_211_method_1_code_55) rfl rfl k) ?_
  show own_Go p e below s _ _ _ (T131.setTop (mkF m 56 #[.val (.ref r), .val (.long q1), .second, .val (.long q2), .second] [(.ref r)]))
  refine own_st (fun _ k => XT.lloadN X131.here hx rfl (hb hby own_d_prog_211_method_1_code_56) rfl k) ?_
  show own_Go p e below s _ _ _ (T131.setTop (mkF m 57 #[.val (.ref r), .val (.long q1), .second, .val (.long q2), .second] [(.long q1), (.ref r)]))
  have F136 : Fld Z h131 r "com/example/treeloom/treeloom/xdm/Tree" "place" "J" (.long (0 : Int64)) := ((((((((((((F6.ext E58).other W66 (Or.inr (slot_ne (Or.inr (hw _ (List.mem_of_getElem? (i := 30) rfl))) (Or.inl (hw _ (List.mem_of_getElem? (i := 11) rfl))) (by decide) (t := .long) (t' := (.array .byte)) (by decide) (by decide)))).ext E71).other W79 (Or.inr (slot_ne (Or.inr (hw _ (List.mem_of_getElem? (i := 30) rfl))) (Or.inl (hw _ (List.mem_of_getElem? (i := 14) rfl))) (by decide) (t := .long) (t' := (.array .int)) (by decide) (by decide)))).ext E84).other W92 (Or.inr (slot_ne (Or.inr (hw _ (List.mem_of_getElem? (i := 30) rfl))) (Or.inl (hw _ (List.mem_of_getElem? (i := 16) rfl))) (by decide) (t := .long) (t' := (.array .int)) (by decide) (by decide)))).ext E97).other W105 (Or.inr (slot_ne (Or.inr (hw _ (List.mem_of_getElem? (i := 30) rfl))) (Or.inl (hw _ (List.mem_of_getElem? (i := 20) rfl))) (by decide) (t := .long) (t' := (.array (.object "com/example/treeloom/treeloom/xdm/QName"))) (by decide) (by decide)))).ext E110).other W118 (Or.inr (slot_ne (Or.inr (hw _ (List.mem_of_getElem? (i := 30) rfl))) (Or.inl (hw _ (List.mem_of_getElem? (i := 24) rfl))) (by decide) (t := .long) (t' := (.array (.object "java/lang/String"))) (by decide) (by decide)))).ext E123).other W131 (Or.inr (slot_ne (Or.inr (hw _ (List.mem_of_getElem? (i := 30) rfl))) (Or.inl (hw _ (List.mem_of_getElem? (i := 28) rfl))) (by decide) (t := .long) (t' := (.array (.array (.object "com/example/treeloom/treeloom/xdm/NamespaceBinding")))) (by decide) (by decide))))
  have F137 : Exa Z h131 r "com/example/treeloom/treeloom/xdm/Tree" := (F130.wr W131)
  obtain ⟨T138, h138, X138, e138, W138, st138⟩ := putF X131 hx hZ hown (host := "") (Or.inl (hw _ (List.mem_of_getElem? (i := 29) rfl))) Via.refl e131 F136 F137 (Or.inr ⟨(hw _ (List.mem_of_getElem? (i := 30) rfl)), rfl, hnm⟩) (hw _ (List.mem_of_getElem? (i := 1) rfl)) (ty := .long) (by decide) rfl rfl (g := (mkF m 57 #[.val (.ref r), .val (.long q1), .second, .val (.long q2), .second] [(.long q1), (.ref r)])) rfl rfl (hb hby own_d_prog_211_method_1_code_57)
  refine own_st st138 ?_
  have N139 := Fr.snoc X138 N132 g1
  have F140 : Fld Z h138 r "com/example/treeloom/treeloom/xdm/Tree" "place" "J" (.long q1) := F136.same W138
  have Zs141 : n0 ≤ h138.size := Nat.le_trans Zs134 (Nat.le_of_eq W138.size.symm)
  have Kp142 : Keep h0 h138 [r] := Kp135.wr W138 (Or.inl (List.mem_of_getElem? (i := 0) rfl))
  show own_Go p e below s _ _ _ (T138.setTop (mkF m 60 #[.val (.ref r), .val (.long q1), .second, .val (.long q2), .second] []))
  refine own_st (fun _ k => XS.aloadN X138.here hx rfl (hb hby own_d_prog_211_method_1_code_60) rfl rfl k) ?_
  show own_Go p e below s _ _ _ (T138.setTop (mkF m 61 #[.val (.ref r), .val (.long q1), .second, .val (.long q2), .second] [(.ref r)]))
  refine own_st (fun _ k => XT.lloadN X138.here hx rfl (hb hby own_d_prog_211_method_1_code_61) rfl k) ?_
  show own_Go p e below s _ _ _ (T138.setTop (mkF m 62 #[.val (.ref r), .val (.long q1), .second, .val (.long q2), .second] [(.long q2), (.ref r)]))
  have F143 : Fld Z h138 r "com/example/treeloom/treeloom/xdm/Tree" "serial" "J" (.long (0 : Int64)) := (((((((((((((F7.ext E58).other W66 (Or.inr (slot_ne (Or.inr (hw _ (List.mem_of_getElem? (i := 32) rfl))) (Or.inl (hw _ (List.mem_of_getElem? (i := 11) rfl))) (by decide) (t := .long) (t' := (.array .byte)) (by decide) (by decide)))).ext E71).other W79 (Or.inr (slot_ne (Or.inr (hw _ (List.mem_of_getElem? (i := 32) rfl))) (Or.inl (hw _ (List.mem_of_getElem? (i := 14) rfl))) (by decide) (t := .long) (t' := (.array .int)) (by decide) (by decide)))).ext E84).other W92 (Or.inr (slot_ne (Or.inr (hw _ (List.mem_of_getElem? (i := 32) rfl))) (Or.inl (hw _ (List.mem_of_getElem? (i := 16) rfl))) (by decide) (t := .long) (t' := (.array .int)) (by decide) (by decide)))).ext E97).other W105 (Or.inr (slot_ne (Or.inr (hw _ (List.mem_of_getElem? (i := 32) rfl))) (Or.inl (hw _ (List.mem_of_getElem? (i := 20) rfl))) (by decide) (t := .long) (t' := (.array (.object "com/example/treeloom/treeloom/xdm/QName"))) (by decide) (by decide)))).ext E110).other W118 (Or.inr (slot_ne (Or.inr (hw _ (List.mem_of_getElem? (i := 32) rfl))) (Or.inl (hw _ (List.mem_of_getElem? (i := 24) rfl))) (by decide) (t := .long) (t' := (.array (.object "java/lang/String"))) (by decide) (by decide)))).ext E123).other W131 (Or.inr (slot_ne (Or.inr (hw _ (List.mem_of_getElem? (i := 32) rfl))) (Or.inl (hw _ (List.mem_of_getElem? (i := 28) rfl))) (by decide) (t := .long) (t' := (.array (.array (.object "com/example/treeloom/treeloom/xdm/NamespaceBinding")))) (by decide) (by decide)))).other W138 (Or.inr (slot_ne (Or.inr (hw _ (List.mem_of_getElem? (i := 32) rfl))) (Or.inr (hw _ (List.mem_of_getElem? (i := 30) rfl))) (by decide) (t := .long) (t' := .long) (by decide) (by decide))))
  have F144 : Exa Z h138 r "com/example/treeloom/treeloom/xdm/Tree" := (F137.wr W138)
  obtain ⟨T145, h145, X145, e145, W145, st145⟩ := putF X138 hx hZ hown (host := "") (Or.inl (hw _ (List.mem_of_getElem? (i := 31) rfl))) Via.refl e138 F143 F144 (Or.inr ⟨(hw _ (List.mem_of_getElem? (i := 32) rfl)), rfl, hnm⟩) (hw _ (List.mem_of_getElem? (i := 1) rfl)) (ty := .long) (by decide) rfl rfl (g := (mkF m 62 #[.val (.ref r), .val (.long q1), .second, .val (.long q2), .second] [(.long q2), (.ref r)])) rfl rfl (hb hby own_d_prog_211_method_1_code_62)
  refine own_st st145 ?_
  have N146 := Fr.snoc X145 N139 g1
  have F147 : Fld Z h145 r "com/example/treeloom/treeloom/xdm/Tree" "serial" "J" (.long q2) := F143.same W145
  have Zs148 : n0 ≤ h145.size := Nat.le_trans Zs141 (Nat.le_of_eq W145.size.symm)
  have Kp149 : Keep h0 h145 [r] := Kp142.wr W145 (Or.inl (List.mem_of_getElem? (i := 0) rfl))
  show own_Go p e below s _ _ _ (T145.setTop (mkF m 65 #[.val (.ref r), .val (.long q1), .second, .val (.long q2), .second] []))
  refine own_st (fun _ k => XS.aloadN X145.here hx rfl (hb hby own_d_prog_211_method_1_code_65) rfl rfl k) ?_
  show own_Go p e below s _ _ _ (T145.setTop (mkF m 66 #[.val (.ref r), .val (.long q1), .second, .val (.long q2), .second] [(.ref r)]))
  obtain ⟨T150, h150, X150, e150, E150, A150, D150, -, st150⟩ := newO X145 hx hZ hown (hw _ (List.mem_of_getElem? (i := 33) rfl)) (hw _ (List.mem_of_getElem? (i := 34) rfl)) (hw _ (List.mem_of_getElem? (i := 35) rfl)) e145 (g := (mkF m 66 #[.val (.ref r), .val (.long q1), .second, .val (.long q2), .second] [(.ref r)])) rfl (hb hby own_d_prog_211_method_1_code_66) (by decide) (by decide)
  obtain ⟨b150, g150⟩ : ∃ z, z = h145.size := ⟨_, rfl⟩
  rw [← g150] at A150 D150 st150
  refine own_st st150 ?_
  have Zs151 : n0 ≤ h150.size := Nat.le_trans Zs148 E150.1
  have Kp152 : Keep h0 h150 [r] := Kp149.ext E150
  have g153 : n0 ≤ b150 := Nat.le_trans Zs148 (Nat.le_of_eq g150.symm)
  have sz154 : h0.size ≤ b150 := Nat.le_trans Kp149.1 (Nat.le_of_eq g150.symm)
  have F155 : Fld Z h150 b150 "com/example/treeloom/treeloom/xdm/Node" "tree" "Lcom/example/treeloom/treeloom/xdm/Tree;" .null := D150 (Or.inr (hw _ (List.mem_of_getElem? (i := 41) rfl))) (ty := (.object "com/example/treeloom/treeloom/xdm/Tree")) (by decide)
  have F156 : Fld Z h150 b150 "com/example/treeloom/treeloom/xdm/Node" "index" "I" (.int (0 : Int32)) := D150 (Or.inr (hw _ (List.mem_of_getElem? (i := 43) rfl))) (ty := .int) (by decide)
  show own_Go p e below s _ _ _ (T150.setTop (mkF m 69 #[.val (.ref r), .val (.long q1), .second, .val (.long q2), .second] [(.ref b150), (.ref r)]))
  refine own_st (fun _ k => XS.dup X150.here hx rfl (hb hby own_d_prog_211_method_1_code_69) rfl rfl k) ?_
  show own_Go p e below s _ _ _ (T150.setTop (mkF m 70 #[.val (.ref r), .val (.long q1), .second, .val (.long q2), .second] [(.ref b150), (.ref b150), (.ref r)]))
  refine own_st (fun _ k => XS.aloadN X150.here hx rfl (hb hby own_d_prog_211_method_1_code_70) rfl rfl k) ?_
  show own_Go p e below s _ _ _ (T150.setTop (mkF m 71 #[.val (.ref r), .val (.long q1), .second, .val (.long q2), .second] [(.ref r), (.ref b150), (.ref b150), (.ref r)]))
  refine own_st (fun _ k => XT.iconstV X150.here hx rfl (0 : Int32) (hb hby own_d_prog_211_method_1_code_71) (by decide) k) ?_
  show own_Go p e below s _ _ _ (T150.setTop (mkF m 72 #[.val (.ref r), .val (.long q1), .second, .val (.long q2), .second] [(.int (0 : Int32)), (.ref r), (.ref b150), (.ref b150), (.ref r)]))
  obtain ⟨_, _, ⟨T157, L157, k157, n157⟩, -, X157, ⟨Lc157, hQ157, l157, y157, z157⟩, st157⟩ := X150.specialBack hx (y := (⟨"com/example/treeloom/treeloom/xdm/Node", "<init>", "(Lcom/example/treeloom/treeloom/xdm/Tree;I)V"⟩ : MethodName)) rfl hown (mvT hZ (hw _ (List.mem_of_getElem? (i := 36) rfl))) (mvT hZ (hw _ (List.mem_of_getElem? (i := 37) rfl))) (mvT hZ (hw _ (List.mem_of_getElem? (i := 38) rfl))) (by decide) (backOf (W := 2) (own_rm_node l Z a0 hw [] b150 r (0 : Int32) h150 n0 Zs151 A150 F155 F156 g153) hZ (hw _ (List.mem_of_getElem? (i := 38) rfl)) (hw _ (List.mem_of_getElem? (i := 35) rfl)) (by decide) (by decide)) (g := (mkF m 72 #[.val (.ref r), .val (.long q1), .second, .val (.long q2), .second] [(.int (0 : Int32)), (.ref r), (.ref b150), (.ref b150), (.ref r)])) rfl (by rw [hml]; rfl) (Steps.refl _) (a := b150) (argsL := [(.ref r), (.int (0 : Int32))]) (rest := [(.ref b150), (.ref r)]) (lenOf own_pd2 rfl) rfl (by show 2 * 0 + _ ≤ _; exact Nat.le_of_eq rfl) (hb hby own_d_prog_211_method_1_code_72) (fun _ _ => ⟨rfl, e150, (by decide : 7 + 0 ≤ _), (by decide : 98 + 0 ≤ _)⟩)
  dsimp only [Pt.U, Pt.locs, Pt.cells, Pt.slots] at X157 l157 y157 z157 st157 hQ157
  subst l157 y157 z157
  obtain ⟨N157q, rfl, K157, q158, q159, q160⟩ := hQ157
  have N161 := Fr.app N146 N157q
  refine own_tr st157 ?_
  have Zs162 : n0 ≤ T157.heap.size := Nat.le_trans Zs151 K157.1
  have Kp163 : Keep h0 T157.heap [r] := Kp152.trans K157 (allS (Or.inr sz154) all0)
  show own_Go p e below s _ _ _ (T157.setTop (mkF m 75 #[.val (.ref r), .val (.long q1), .second, .val (.long q2), .second] [(.ref b150), (.ref r)]))
  have ne164 : r ≠ b150 := Nat.ne_of_lt (Nat.lt_of_lt_of_le (Nat.lt_of_lt_of_le E1.lt (Nat.le_trans (Nat.le_trans (Nat.le_trans (Nat.le_trans (Nat.le_trans (Nat.le_trans (Nat.le_trans (Nat.le_trans (Nat.le_trans (Nat.le_trans (Nat.le_trans (Nat.le_trans (Nat.le_trans E58.1 (Nat.le_of_eq W66.size.symm)) E71.1) (Nat.le_of_eq W79.size.symm)) E84.1) (Nat.le_of_eq W92.size.symm)) E97.1) (Nat.le_of_eq W105.size.symm)) E110.1) (Nat.le_of_eq W118.size.symm)) E123.1) (Nat.le_of_eq W131.size.symm)) (Nat.le_of_eq W138.size.symm)) (Nat.le_of_eq W145.size.symm))) (Nat.le_of_eq g150.symm))
  have F165 : Fld Z T157.heap r "com/example/treeloom/treeloom/xdm/Tree" "root" "Lcom/example/treeloom/treeloom/xdm/Node;" .null := ((((((((((((((((F8.ext E58).other W66 (Or.inr (slot_ne (Or.inr (hw _ (List.mem_of_getElem? (i := 45) rfl))) (Or.inl (hw _ (List.mem_of_getElem? (i := 11) rfl))) (by decide) (t := (.object "com/example/treeloom/treeloom/xdm/Node")) (t' := (.array .byte)) (by decide) (by decide)))).ext E71).other W79 (Or.inr (slot_ne (Or.inr (hw _ (List.mem_of_getElem? (i := 45) rfl))) (Or.inl (hw _ (List.mem_of_getElem? (i := 14) rfl))) (by decide) (t := (.object "com/example/treeloom/treeloom/xdm/Node")) (t' := (.array .int)) (by decide) (by decide)))).ext E84).other W92 (Or.inr (slot_ne (Or.inr (hw _ (List.mem_of_getElem? (i := 45) rfl))) (Or.inl (hw _ (List.mem_of_getElem? (i := 16) rfl))) (by decide) (t := (.object "com/example/treeloom/treeloom/xdm/Node")) (t' := (.array .int)) (by decide) (by decide)))).ext E97).other W105 (Or.inr (slot_ne (Or.inr (hw _ (List.mem_of_getElem? (i := 45) rfl))) (Or.inl (hw _ (List.mem_of_getElem? (i := 20) rfl))) (by decide) (t := (.object "com/example/treeloom/treeloom/xdm/Node")) (t' := (.array (.object "com/example/treeloom/treeloom/xdm/QName"))) (by decide) (by decide)))).ext E110).other W118 (Or.inr (slot_ne (Or.inr (hw _ (List.mem_of_getElem? (i := 45) rfl))) (Or.inl (hw _ (List.mem_of_getElem? (i := 24) rfl))) (by decide) (t := (.object "com/example/treeloom/treeloom/xdm/Node")) (t' := (.array (.object "java/lang/String"))) (by decide) (by decide)))).ext E123).other W131 (Or.inr (slot_ne (Or.inr (hw _ (List.mem_of_getElem? (i := 45) rfl))) (Or.inl (hw _ (List.mem_of_getElem? (i := 28) rfl))) (by decide) (t := (.object "com/example/treeloom/treeloom/xdm/Node")) (t' := (.array (.array (.object "com/example/treeloom/treeloom/xdm/NamespaceBinding")))) (by decide) (by decide)))).other W138 (Or.inr (slot_ne (Or.inr (hw _ (List.mem_of_getElem? (i := 45) rfl))) (Or.inr (hw _ (List.mem_of_getElem? (i := 30) rfl))) (by decide) (t := (.object "com/example/treeloom/treeloom/xdm/Node")) (t' := .long) (by decide) (by decide)))).other W145 (Or.inr (slot_ne (Or.inr (hw _ (List.mem_of_getElem? (i := 45) rfl))) (Or.inr (hw _ (List.mem_of_getElem? (i := 32) rfl))) (by decide) (t := (.object "com/example/treeloom/treeloom/xdm/Node")) (t' := .long) (by decide) (by decide)))).ext E150).keep K157 (ninS ne164 nin0))
  have F166 : Exa Z T157.heap r "com/example/treeloom/treeloom/xdm/Tree" := (((F144.wr W145).ext E150).keep K157)
  obtain ⟨T167, h167, X167, e167, W167, st167⟩ := putF X157 hx hZ hown (host := "") (Or.inl (hw _ (List.mem_of_getElem? (i := 44) rfl))) Via.refl rfl F165 F166 (Or.inr ⟨(hw _ (List.mem_of_getElem? (i := 45) rfl)), rfl, hnm⟩) (hw _ (List.mem_of_getElem? (i := 1) rfl)) (ty := (.object "com/example/treeloom/treeloom/xdm/Node")) (by decide) rfl rfl (g := (mkF m 75 #[.val (.ref r), .val (.long q1), .second, .val (.long q2), .second] [(.ref b150), (.ref r)])) rfl rfl (hb hby own_d_prog_211_method_1_code_75)
  refine own_st st167 ?_
  have N168 := Fr.snoc X167 N161 g1
  have F169 : Fld Z h167 r "com/example/treeloom/treeloom/xdm/Tree" "root" "Lcom/example/treeloom/treeloom/xdm/Node;" (.ref b150) := F165.same W167
  have Zs170 : n0 ≤ h167.size := Nat.le_trans Zs162 (Nat.le_of_eq W167.size.symm)
  have Kp171 : Keep h0 h167 [r] := Kp163.wr W167 (Or.inl (List.mem_of_getElem? (i := 0) rfl))
  show own_Go p e below s _ _ _ (T167.setTop (mkF m 78 #[.val (.ref r), .val (.long q1), .second, .val (.long q2), .second] []))
  have F172 : Exa Z h167 r "com/example/treeloom/treeloom/xdm/Tree" := (F166.wr W167)
  have F173 : Exa Z h167 b150 "com/example/treeloom/treeloom/xdm/Node" := (q158.wr W167)
  have F174 : Fld Z h167 b150 "com/example/treeloom/treeloom/xdm/Node" "tree" "Lcom/example/treeloom/treeloom/xdm/Tree;" (.ref r) := (q159.other W167 (Or.inl ne164.symm))
  have F175 : Fld Z h167 b150 "com/example/treeloom/treeloom/xdm/Node" "index" "I" (.int (0 : Int32)) := (q160.other W167 (Or.inl ne164.symm))
  refine own_ret0 X167 hx hlk Bd.returns (hb hby own_d_prog_211_method_1_code_78) (by decide) (by decide) ?_
  rw [e167]
  exact ⟨b150, N168, rfl, Kp171, sz154, F172, F169, F173, F174, F175⟩
theorem own_d_prog_197_method_13_code_0 : decode prog_197_method_13_code 0 = .ok (.aload_n 1, 1) := by decide +kernel
theorem own_d_prog_197_method_13_code_1 : decode prog_197_method_13_code 1 = .ok (.instanceof 8, 3) := by decide +kernel
theorem own_d_prog_197_method_13_code_4 : decode prog_197_method_13_code 4 = .ok (.ifCond .eq 34, 3) := by decide +kernel
theorem own_d_prog_197_method_13_code_7 : decode prog_197_method_13_code 7 = .ok (.aload_n 1, 1) := by decide +kernel
theorem own_d_prog_197_method_13_code_8 : decode prog_197_method_13_code 8 = .ok (.checkcast 8, 3) := by decide +kernel
theorem own_d_prog_197_method_13_code_11 : decode prog_197_method_13_code 11 = .ok (.astore_n 2, 1) := by decide +kernel
theorem own_d_prog_197_method_13_code_12 : decode prog_197_method_13_code 12 = .ok (.aload_n 0, 1) := by decide +kernel
theorem own_d_prog_197_method_13_code_13 : decode prog_197_method_13_code 13 = .ok (.getfield 7, 3) := by decide +kernel
theorem own_d_prog_197_method_13_code_16 : decode prog_197_method_13_code 16 = .ok (.aload_n 2, 1) := by decide +kernel
theorem own_d_prog_197_method_13_code_17 : decode prog_197_method_13_code 17 = .ok (.getfield 7, 3) := by decide +kernel
theorem own_d_prog_197_method_13_code_20 : decode prog_197_method_13_code 20 = .ok (.if_acmp .ne 18, 3) := by decide +kernel
theorem own_d_prog_197_method_13_code_23 : decode prog_197_method_13_code 23 = .ok (.aload_n 0, 1) := by decide +kernel
theorem own_d_prog_197_method_13_code_24 : decode prog_197_method_13_code 24 = .ok (.getfield 13, 3) := by decide +kernel
theorem own_d_prog_197_method_13_code_27 : decode prog_197_method_13_code 27 = .ok (.aload_n 2, 1) := by decide +kernel
theorem own_d_prog_197_method_13_code_28 : decode prog_197_method_13_code 28 = .ok (.getfield 13, 3) := by decide +kernel
theorem own_d_prog_197_method_13_code_31 : decode prog_197_method_13_code 31 = .ok (.if_icmp .ne 7, 3) := by decide +kernel
theorem own_d_prog_197_method_13_code_34 : decode prog_197_method_13_code 34 = .ok (.iconst 1, 1) := by decide +kernel
theorem own_d_prog_197_method_13_code_35 : decode prog_197_method_13_code 35 = .ok (.goto 4, 3) := by decide +kernel
theorem own_d_prog_197_method_13_code_38 : decode prog_197_method_13_code 38 = .ok (.iconst 0, 1) := by decide +kernel
theorem own_d_prog_197_method_13_code_39 : decode prog_197_method_13_code 39 = .ok (.ireturn, 1) := by decide +kernel
theorem own_pn5 : plainFor (⟨"com/example/treeloom/treeloom/xdm/Node", "equals", "(Ljava/lang/Object;)Z"⟩ : MethodName) = true := by decide +kernel
def own_rm_eqN_Q (Z : State) (r : Addr) (h0 : Heap) (n0 : Nat) (v : Option Value) (h : Heap) (L : List Loc) : Prop := Fr n0 L ∧ v = some (.int (0 : Int32)) ∧ h = h0
theorem own_rm_eqN_ef (m : MethodId) (r : Addr)  : entryFrame m #[(.ref r), .null] 3 = mkF m 0 #[.val (.ref r), .val .null, .unset] [] := by first | (simp [entryFrame, mkF, argsToLocals, Value.category]; done) | rfl
set_option maxRecDepth 65536 in
set_option maxHeartbeats 40000000 in
theorem own_rm_eqN (l : Launch) (Z : State) (a0 : Array Value) (hw : ∀ d ∈ tables_1, d.before a0 Z = true) (ws : List Jvm.Cond) (r : Addr) (h0 : Heap) (n0 : Nat) (Z0 : n0 ≤ h0.size)  :
    MetFree l (⟨"com/example/treeloom/treeloom/xdm/Node", "equals", "(Ljava/lang/Object;)Z"⟩ : MethodName) (head1 (Jvm.Cond.code (⟨"com/example/treeloom/treeloom/xdm/Node", "equals", "(Ljava/lang/Object;)Z"⟩ : MethodName) prog_197_method_13_code 3 (some .boolean) :: ws) ({ frames := 0, cells := 0, slots := 0, locals := 0 } : Room)) (fun a U => a = #[(.ref r), .null] ∧ Z.Warmed39 U.vm ∧ U.heap = h0) (fun _ _ _ _ _ => True) (fun _ U o U' => ∃ v L, o = .returned v ∧ own_rm_eqN_Q Z r h0 n0 v U'.heap L ∧ FrameEnd U o U' L ({ frames := 0, cells := 0, slots := 0, locals := 0 } : Room).cells ({ frames := 0, cells := 0, slots := 0, locals := 0 } : Room).slots) := by
  refine MetFree.of_bodySF own_pn5 hisR ?_
  intro p e s m args below meth c s₁ Bd hml0 hP hK
  obtain ⟨rfl, hZ, hh⟩ := hP
  have hx := Bd.exec
  have hby := Bd.bytes
  have hml : c.maxLocals = 3 := hml0
  have hlk := BodyLoose.notSynchronized Bd
  have hown : s.vm.findClass "com/example/treeloom/treeloom/xdm/Node" = some m.cls := findClass_of_methodNamed Bd.named
  have hnm := (name_of_methodNamed Bd.named Bd.method).1
  have X0 : Stand p l e ({ frames := 0, cells := 0, slots := 0, locals := 0 } : Room) s m #[(.ref r), .null] below meth c s₁ [] 0 0 := Stand.of_body Bd
  have e0 : s₁.heap = h0 := by rw [← hh, Bd.state]; rfl
  have N0 := Fr.nil n0
  show own_Go p e below s (own_rm_eqN_Q Z r h0 n0) ({ frames := 0, cells := 0, slots := 0, locals := 0 } : Room).cells ({ frames := 0, cells := 0, slots := 0, locals := 0 } : Room).slots (s₁.setTop (entryFrame m #[(.ref r), .null] 3))
  rw [own_rm_eqN_ef]
  show own_Go p e below s _ _ _ (s₁.setTop (mkF m 0 #[.val (.ref r), .val .null, .unset] []))
  refine own_st (fun _ k => XS.aloadN X0.here hx rfl (hb hby own_d_prog_197_method_13_code_0) rfl rfl k) ?_
  show own_Go p e below s _ _ _ (s₁.setTop (mkF m 1 #[.val (.ref r), .val .null, .unset] [.null]))
  refine own_st (Jvm.Stand.instanceofNull X0 hx (g := (mkF m 1 #[.val (.ref r), .val .null, .unset] [.null])) rfl rfl (hb hby own_d_prog_197_method_13_code_1)) ?_
  show own_Go p e below s _ _ _ (s₁.setTop (mkF m 4 #[.val (.ref r), .val .null, .unset] [(.int (0 : Int32))]))
  refine own_st (fun _ k => XS.ifYes X0.here hx rfl (pc0 := 4) (pc' := 38) rfl (hb hby own_d_prog_197_method_13_code_4) rfl (XT.i0_eq_t (by decide)) (by decide) (by decide) k) ?_
  show own_Go p e below s _ _ _ (s₁.setTop (mkF m 38 #[.val (.ref r), .val .null, .unset] []))
  refine own_st (fun _ k => XT.iconstV X0.here hx rfl (0 : Int32) (hb hby own_d_prog_197_method_13_code_38) (by decide) k) ?_
  show own_Go p e below s _ _ _ (s₁.setTop (mkF m 39 #[.val (.ref r), .val .null, .unset] [(.int (0 : Int32))]))
  refine own_retN X0 hx hlk Bd.returns (t := .boolean) (z' := (0 : Int32)) (by simp) (by decide) (hb hby own_d_prog_197_method_13_code_39) (by decide) (by decide) ?_
  rw [e0]
  exact ⟨N0, rfl, rfl⟩
def own_rm_eqI_Q (Z : State) (r : Addr) (oo : Addr) (h0 : Heap) (n0 : Nat) (v : Option Value) (h : Heap) (L : List Loc) : Prop := Fr n0 L ∧ v = some (.int (0 : Int32)) ∧ h = h0
theorem own_rm_eqI_ef (m : MethodId) (r : Addr) (oo : Addr)  : entryFrame m #[(.ref r), (.ref oo)] 3 = mkF m 0 #[.val (.ref r), .val (.ref oo), .unset] [] := by first | (simp [entryFrame, mkF, argsToLocals, Value.category]; done) | rfl
set_option maxRecDepth 65536 in
set_option maxHeartbeats 40000000 in
theorem own_rm_eqI (l : Launch) (Z : State) (a0 : Array Value) (hw : ∀ d ∈ tables_1, d.before a0 Z = true) (ws : List Jvm.Cond) (r : Addr) (oo : Addr) (h0 : Heap) (n0 : Nat) (Z0 : n0 ≤ h0.size) (E1 : Exa Z h0 oo "java/lang/Integer") :
    MetFree l (⟨"com/example/treeloom/treeloom/xdm/Node", "equals", "(Ljava/lang/Object;)Z"⟩ : MethodName) (head1 (Jvm.Cond.code (⟨"com/example/treeloom/treeloom/xdm/Node", "equals", "(Ljava/lang/Object;)Z"⟩ : MethodName) prog_197_method_13_code 3 (some .boolean) :: ws) ({ frames := 0, cells := 0, slots := 0, locals := 0 } : Room)) (fun a U => a = #[(.ref r), (.ref oo)] ∧ Z.Warmed39 U.vm ∧ U.heap = h0) (fun _ _ _ _ _ => True) (fun _ U o U' => ∃ v L, o = .returned v ∧ own_rm_eqI_Q Z r oo h0 n0 v U'.heap L ∧ FrameEnd U o U' L ({ frames := 0, cells := 0, slots := 0, locals := 0 } : Room).cells ({ frames := 0, cells := 0, slots := 0, locals := 0 } : Room).slots) := by
  refine MetFree.of_bodySF own_pn5 hisR ?_
  intro p e s m args below meth c s₁ Bd hml0 hP hK
  obtain ⟨rfl, hZ, hh⟩ := hP
  have hx := Bd.exec
  have hby := Bd.bytes
  have hml : c.maxLocals = 3 := hml0
  have hlk := BodyLoose.notSynchronized Bd
  have hown : s.vm.findClass "com/example/treeloom/treeloom/xdm/Node" = some m.cls := findClass_of_methodNamed Bd.named
  have hnm := (name_of_methodNamed Bd.named Bd.method).1
  have X0 : Stand p l e ({ frames := 0, cells := 0, slots := 0, locals := 0 } : Room) s m #[(.ref r), (.ref oo)] below meth c s₁ [] 0 0 := Stand.of_body Bd
  have e0 : s₁.heap = h0 := by rw [← hh, Bd.state]; rfl
  have N0 := Fr.nil n0
  show own_Go p e below s (own_rm_eqI_Q Z r oo h0 n0) ({ frames := 0, cells := 0, slots := 0, locals := 0 } : Room).cells ({ frames := 0, cells := 0, slots := 0, locals := 0 } : Room).slots (s₁.setTop (entryFrame m #[(.ref r), (.ref oo)] 3))
  rw [own_rm_eqI_ef]
  show own_Go p e below s _ _ _ (s₁.setTop (mkF m 0 #[.val (.ref r), .val (.ref oo), .unset] []))
  refine own_st (fun _ k => XS.aloadN X0.here hx rfl (hb hby own_d_prog_197_method_13_code_0) rfl rfl k) ?_
  show own_Go p e below s _ _ _ (s₁.setTop (mkF m 1 #[.val (.ref r), .val (.ref oo), .unset] [(.ref oo)]))
  obtain ⟨T177, X177, e177, st177⟩ := instNo X0 hx hZ hown (hw _ (List.mem_of_getElem? (i := 53) rfl)) e0 E1 (own_no (hw _ (List.mem_of_getElem? (i := 62) rfl)) (hw _ (List.mem_of_getElem? (i := 34) rfl)) (NS.step (hw _ (List.mem_of_getElem? (i := 62) rfl)) (NS.step (hw _ (List.mem_of_getElem? (i := 63) rfl)) (own_NSroot (hw _ (List.mem_of_getElem? (i := 64) rfl)) (hw _ (List.mem_of_getElem? (i := 34) rfl)) (by decide)) (by decide)) (by decide)) (by decide)) (g := (mkF m 1 #[.val (.ref r), .val (.ref oo), .unset] [(.ref oo)])) rfl rfl (hb hby own_d_prog_197_method_13_code_1)
  refine own_st st177 ?_
  show own_Go p e below s _ _ _ (T177.setTop (mkF m 4 #[.val (.ref r), .val (.ref oo), .unset] [(.int (0 : Int32))]))
  refine own_st (fun _ k => XS.ifYes X177.here hx rfl (pc0 := 4) (pc' := 38) rfl (hb hby own_d_prog_197_method_13_code_4) rfl (XT.i0_eq_t (by decide)) (by decide) (by decide) k) ?_
  show own_Go p e below s _ _ _ (T177.setTop (mkF m 38 #[.val (.ref r), .val (.ref oo), .unset] []))
  refine own_st (fun _ k => XT.iconstV X177.here hx rfl (0 : Int32) (hb hby own_d_prog_197_method_13_code_38) (by decide) k) ?_
  show own_Go p e below s _ _ _ (T177.setTop (mkF m 39 #[.val (.ref r), .val (.ref oo), .unset] [(.int (0 : Int32))]))
  refine own_retN X177 hx hlk Bd.returns (t := .boolean) (z' := (0 : Int32)) (by simp) (by decide) (hb hby own_d_prog_197_method_13_code_39) (by decide) (by decide) ?_
  rw [e177]
  exact ⟨N0, rfl, rfl⟩
def own_rm_eqO_Q (Z : State) (r : Addr) (oo : Addr) (t1 : Addr) (t2 : Addr) (q3 : Int32) (q4 : Int32) (h0 : Heap) (n0 : Nat) (v : Option Value) (h : Heap) (L : List Loc) : Prop := Fr n0 L ∧ v = some (.int (if t1 = t2 then (if q3 = q4 then (1 : Int32) else 0) else 0)) ∧ h = h0
theorem own_rm_eqO_ef (m : MethodId) (r : Addr) (oo : Addr)  : entryFrame m #[(.ref r), (.ref oo)] 3 = mkF m 0 #[.val (.ref r), .val (.ref oo), .unset] [] := by first | (simp [entryFrame, mkF, argsToLocals, Value.category]; done) | rfl
set_option maxRecDepth 65536 in
set_option maxHeartbeats 40000000 in
theorem own_rm_eqO (l : Launch) (Z : State) (a0 : Array Value) (hw : ∀ d ∈ tables_1, d.before a0 Z = true) (ws : List Jvm.Cond) (r : Addr) (oo : Addr) (t1 : Addr) (t2 : Addr) (q3 : Int32) (q4 : Int32) (h0 : Heap) (n0 : Nat) (Z0 : n0 ≤ h0.size) (E1 : Exa Z h0 oo "com/example/treeloom/treeloom/xdm/Node") (F1 : Fld Z h0 r "com/example/treeloom/treeloom/xdm/Node" "tree" "Lcom/example/treeloom/treeloom/xdm/Tree;" (.ref t1)) (F2 : Fld Z h0 r "com/example/treeloom/treeloom/xdm/Node" "index" "I" (.int q3)) (F3 : Fld Z h0 oo "com/example/treeloom/treeloom/xdm/Node" "tree" "Lcom/example/treeloom/treeloom/xdm/Tree;" (.ref t2)) (F4 : Fld Z h0 oo "com/example/treeloom/treeloom/xdm/Node" "index" "I" (.int q4)) :
    MetFree l (⟨"com/example/treeloom/treeloom/xdm/Node", "equals", "(Ljava/lang/Object;)Z"⟩ : MethodName) (head1 (Jvm.Cond.code (⟨"com/example/treeloom/treeloom/xdm/Node", "equals", "(Ljava/lang/Object;)Z"⟩ : MethodName) prog_197_method_13_code 3 (some .boolean) :: ws) ({ frames := 0, cells := 0, slots := 0, locals := 0 } : Room)) (fun a U => a = #[(.ref r), (.ref oo)] ∧ Z.Warmed39 U.vm ∧ U.heap = h0) (fun _ _ _ _ _ => True) (fun _ U o U' => ∃ v L, o = .returned v ∧ own_rm_eqO_Q Z r oo t1 t2 q3 q4 h0 n0 v U'.heap L ∧ FrameEnd U o U' L ({ frames := 0, cells := 0, slots := 0, locals := 0 } : Room).cells ({ frames := 0, cells := 0, slots := 0, locals := 0 } : Room).slots) := by
  refine MetFree.of_bodySF own_pn5 hisR ?_
  intro p e s m args below meth c s₁ Bd hml0 hP hK
  obtain ⟨rfl, hZ, hh⟩ := hP
  have hx := Bd.exec
  have hby := Bd.bytes
  have hml : c.maxLocals = 3 := hml0
  have hlk := BodyLoose.notSynchronized Bd
  have hown : s.vm.findClass "com/example/treeloom/treeloom/xdm/Node" = some m.cls := findClass_of_methodNamed Bd.named
  have hnm := (name_of_methodNamed Bd.named Bd.method).1
  have X0 : Stand p l e ({ frames := 0, cells := 0, slots := 0, locals := 0 } : Room) s m #[(.ref r), (.ref oo)] below meth c s₁ [] 0 0 := Stand.of_body Bd
  have e0 : s₁.heap = h0 := by rw [← hh, Bd.state]; rfl
  have N0 := Fr.nil n0
  show own_Go p e below s (own_rm_eqO_Q Z r oo t1 t2 q3 q4 h0 n0) ({ frames := 0, cells := 0, slots := 0, locals := 0 } : Room).cells ({ frames := 0, cells := 0, slots := 0, locals := 0 } : Room).slots (s₁.setTop (entryFrame m #[(.ref r), (.ref oo)] 3))
  rw [own_rm_eqO_ef]
  show own_Go p e below s _ _ _ (s₁.setTop (mkF m 0 #[.val (.ref r), .val (.ref oo), .unset] []))
  refine own_st (fun _ k => XS.aloadN X0.here hx rfl (hb hby own_d_prog_197_method_13_code_0) rfl rfl k) ?_
  show own_Go p e below s _ _ _ (s₁.setTop (mkF m 1 #[.val (.ref r), .val (.ref oo), .unset] [(.ref oo)]))
  obtain ⟨T178, X178, e178, st178⟩ := instY X0 hx hZ hown (hw _ (List.mem_of_getElem? (i := 53) rfl)) e0 (Ins.self E1) (g := (mkF m 1 #[.val (.ref r), .val (.ref oo), .unset] [(.ref oo)])) rfl rfl (hb hby own_d_prog_197_method_13_code_1)
  refine own_st st178 ?_
  show own_Go p e below s _ _ _ (T178.setTop (mkF m 4 #[.val (.ref r), .val (.ref oo), .unset] [(.int (1 : Int32))]))
  refine own_st (fun _ k => XS.ifNo X178.here hx rfl (hb hby own_d_prog_197_method_13_code_4) rfl (XT.i0_eq_f (by decide)) k) ?_
  show own_Go p e below s _ _ _ (T178.setTop (mkF m 7 #[.val (.ref r), .val (.ref oo), .unset] []))
  refine own_st (fun _ k => XS.aloadN X178.here hx rfl (hb hby own_d_prog_197_method_13_code_7) rfl rfl k) ?_
  show own_Go p e below s _ _ _ (T178.setTop (mkF m 8 #[.val (.ref r), .val (.ref oo), .unset] [(.ref oo)]))
  obtain ⟨T179, X179, e179, st179⟩ := castY X178 hx hZ hown (hw _ (List.mem_of_getElem? (i := 53) rfl)) e178 (Ins.self E1) (g := (mkF m 8 #[.val (.ref r), .val (.ref oo), .unset] [(.ref oo)])) rfl rfl (hb hby own_d_prog_197_method_13_code_8)
  refine own_st st179 ?_
  show own_Go p e below s _ _ _ (T179.setTop (mkF m 11 #[.val (.ref r), .val (.ref oo), .unset] [(.ref oo)]))
  refine own_st (fun _ k => XS.astoreN X179.here hx rfl (hb hby own_d_prog_197_method_13_code_11) rfl rfl (l' := #[.val (.ref r), .val (.ref oo), .val (.ref oo)]) rfl k) ?_
  show own_Go p e below s _ _ _ (T179.setTop (mkF m 12 #[.val (.ref r), .val (.ref oo), .val (.ref oo)] []))
  refine own_st (fun _ k => XS.aloadN X179.here hx rfl (hb hby own_d_prog_197_method_13_code_12) rfl rfl k) ?_
  show own_Go p e below s _ _ _ (T179.setTop (mkF m 13 #[.val (.ref r), .val (.ref oo), .val (.ref oo)] [(.ref r)]))
  obtain ⟨T180, X180, e180, st180⟩ := getF X179 hx hZ hown (host := "") (Or.inl (hw _ (List.mem_of_getElem? (i := 40) rfl))) Via.refl e179 F1 (g := (mkF m 13 #[.val (.ref r), .val (.ref oo), .val (.ref oo)] [(.ref r)])) rfl rfl (hb hby own_d_prog_197_method_13_code_13)
  refine own_st st180 ?_
  show own_Go p e below s _ _ _ (T180.setTop (mkF m 16 #[.val (.ref r), .val (.ref oo), .val (.ref oo)] [(.ref t1)]))
  refine own_st (fun _ k => XS.aloadN X180.here hx rfl (hb hby own_d_prog_197_method_13_code_16) rfl rfl k) ?_
  show own_Go p e below s _ _ _ (T180.setTop (mkF m 17 #[.val (.ref r), .val (.ref oo), .val (.ref oo)] [(.ref oo), (.ref t1)]))
  obtain ⟨T181, X181, e181, st181⟩ := getF X180 hx hZ hown (host := "") (Or.inl (hw _ (List.mem_of_getElem? (i := 40) rfl))) Via.refl e180 F3 (g := (mkF m 17 #[.val (.ref r), .val (.ref oo), .val (.ref oo)] [(.ref oo), (.ref t1)])) rfl rfl (hb hby own_d_prog_197_method_13_code_17)
  refine own_st st181 ?_
  show own_Go p e below s _ _ _ (T181.setTop (mkF m 20 #[.val (.ref r), .val (.ref oo), .val (.ref oo)] [(.ref t2), (.ref t1)]))
  by_cases hc182 : t1 = t2
  · refine own_st (fun _ k => XT.acmpNo X181.here hx rfl (hb hby own_d_prog_197_method_13_code_20) rfl rfl rfl (XT.aa_ne_f (congrArg Value.ref hc182)) k) ?_
    show own_Go p e below s _ _ _ (T181.setTop (mkF m 23 #[.val (.ref r), .val (.ref oo), .val (.ref oo)] []))
    refine own_st (fun _ k => XS.aloadN X181.here hx rfl (hb hby own_d_prog_197_method_13_code_23) rfl rfl k) ?_
    show own_Go p e below s _ _ _ (T181.setTop (mkF m 24 #[.val (.ref r), .val (.ref oo), .val (.ref oo)] [(.ref r)]))
    obtain ⟨T183, X183, e183, st183⟩ := getF X181 hx hZ hown (host := "") (Or.inl (hw _ (List.mem_of_getElem? (i := 42) rfl))) Via.refl e181 F2 (g := (mkF m 24 #[.val (.ref r), .val (.ref oo), .val (.ref oo)] [(.ref r)])) rfl rfl (hb hby own_d_prog_197_method_13_code_24)
    refine own_st st183 ?_
    show own_Go p e below s _ _ _ (T183.setTop (mkF m 27 #[.val (.ref r), .val (.ref oo), .val (.ref oo)] [(.int q3)]))
    refine own_st (fun _ k => XS.aloadN X183.here hx rfl (hb hby own_d_prog_197_method_13_code_27) rfl rfl k) ?_
    show own_Go p e below s _ _ _ (T183.setTop (mkF m 28 #[.val (.ref r), .val (.ref oo), .val (.ref oo)] [(.ref oo), (.int q3)]))
    obtain ⟨T184, X184, e184, st184⟩ := getF X183 hx hZ hown (host := "") (Or.inl (hw _ (List.mem_of_getElem? (i := 42) rfl))) Via.refl e183 F4 (g := (mkF m 28 #[.val (.ref r), .val (.ref oo), .val (.ref oo)] [(.ref oo), (.int q3)])) rfl rfl (hb hby own_d_prog_197_method_13_code_28)
    refine own_st st184 ?_
    show own_Go p e below s _ _ _ (T184.setTop (mkF m 31 #[.val (.ref r), .val (.ref oo), .val (.ref oo)] [(.int q4), (.int q3)]))
    by_cases hc185 : q3 = q4
    · refine own_st (fun _ k => XS.icmpNo X184.here hx rfl (hb hby own_d_prog_197_method_13_code_31) rfl (XT.ii_ne_f hc185) k) ?_
      show own_Go p e below s _ _ _ (T184.setTop (mkF m 34 #[.val (.ref r), .val (.ref oo), .val (.ref oo)] []))
      refine own_st (fun _ k => XT.iconstV X184.here hx rfl (1 : Int32) (hb hby own_d_prog_197_method_13_code_34) (by decide) k) ?_
      show own_Go p e below s _ _ _ (T184.setTop (mkF m 35 #[.val (.ref r), .val (.ref oo), .val (.ref oo)] [(.int (1 : Int32))]))
      refine own_st (fun _ k => XS.goto X184.here hx rfl (pc0 := 35) (pc' := 39) rfl (hb hby own_d_prog_197_method_13_code_35) (by decide) (by decide) k) ?_
      show own_Go p e below s _ _ _ (T184.setTop (mkF m 39 #[.val (.ref r), .val (.ref oo), .val (.ref oo)] [(.int (1 : Int32))]))
      refine own_retN X184 hx hlk Bd.returns (t := .boolean) (z' := (1 : Int32)) (by simp) (by decide) (hb hby own_d_prog_197_method_13_code_39) (by decide) (by decide) ?_
      rw [e184]
      exact ⟨N0, (by rw [if_pos hc182, if_pos hc185]), rfl⟩
    · refine own_st (fun _ k => XS.icmpYes X184.here hx rfl (pc0 := 31) (pc' := 38) rfl (hb hby own_d_prog_197_method_13_code_31) rfl (XT.ii_ne_t hc185) (by decide) (by decide) k) ?_
      show own_Go p e below s _ _ _ (T184.setTop (mkF m 38 #[.val (.ref r), .val (.ref oo), .val (.ref oo)] []))
      refine own_st (fun _ k => XT.iconstV X184.here hx rfl (0 : Int32) (hb hby own_d_prog_197_method_13_code_38) (by decide) k) ?_
      show own_Go p e below s _ _ _ (T184.setTop (mkF m 39 #[.val (.ref r), .val (.ref oo), .val (.ref oo)] [(.int (0 : Int32))]))
      refine own_retN X184 hx hlk Bd.returns (t := .boolean) (z' := (0 : Int32)) (by simp) (by decide) (hb hby own_d_prog_197_method_13_code_39) (by decide) (by decide) ?_
      rw [e184]
      exact ⟨N0, (by rw [if_pos hc182, if_neg hc185]), rfl⟩
  · refine own_st (fun _ k => XT.acmpYes X181.here hx rfl (pc0 := 20) (pc' := 38) rfl (hb hby own_d_prog_197_method_13_code_20) rfl rfl rfl (XT.aa_ne_t (fun q => hc182 (Value.ref.inj q))) (by decide) (by decide) k) ?_
    show own_Go p e below s _ _ _ (T181.setTop (mkF m 38 #[.val (.ref r), .val (.ref oo), .val (.ref oo)] []))
    refine own_st (fun _ k => XT.iconstV X181.here hx rfl (0 : Int32) (hb hby own_d_prog_197_method_13_code_38) (by decide) k) ?_
    show own_Go p e below s _ _ _ (T181.setTop (mkF m 39 #[.val (.ref r), .val (.ref oo), .val (.ref oo)] [(.int (0 : Int32))]))
    refine own_retN X181 hx hlk Bd.returns (t := .boolean) (z' := (0 : Int32)) (by simp) (by decide) (hb hby own_d_prog_197_method_13_code_39) (by decide) (by decide) ?_
    rw [e181]
    exact ⟨N0, (by rw [if_neg hc182]), rfl⟩
theorem own_pn6 : plainFor (⟨"com/example/treeloom/treeloom/xdm/NodeEqualsPinLaw", "law", "(JJIII)Z"⟩ : MethodName) = true := by decide +kernel
theorem own_pd3 : parseMethodDescriptor "(JJ)V" = some ⟨[.long, .long], none⟩ := by decide +kernel
theorem own_pd4 : parseMethodDescriptor "(Ljava/lang/Object;)Z" = some ⟨[(.object "java/lang/Object")], some .boolean⟩ := by decide +kernel
theorem own_pd5 : parseMethodDescriptor "(I)Ljava/lang/Integer;" = some ⟨[.int], some (.object "java/lang/Integer")⟩ := by decide +kernel
def own_law_Q (Z : State) (n0 : Nat) (v : Option Value) (h : Heap) (L : List Loc) : Prop := Fr n0 L ∧ v = some (.int 1)
theorem own_law_ef (m : MethodId) (p1 : Int64) (p2 : Int64) (p3 : Int32) (p4 : Int32) (p5 : Int32) : entryFrame m #[(.long p1), (.long p2), (.int p3), (.int p4), (.int p5)] maxLocals = mkF m 0 #[.val (.long p1), .second, .val (.long p2), .second, .val (.int p3), .val (.int p4), .val (.int p5), .unset, .unset, .unset, .unset, .unset, .unset, .unset, .unset, .unset, .unset] [] := by first | (simp [entryFrame, mkF, argsToLocals, Value.category, maxLocals]; done) | rfl
set_option maxRecDepth 65536 in
set_option maxHeartbeats 40000000 in
theorem own_law (l : Launch) (Z : State) (a0 : Array Value) (hw : ∀ d ∈ tables_1, d.before a0 Z = true) (ws : List Jvm.Cond) (p1 : Int64) (p2 : Int64) (p3 : Int32) (p4 : Int32) (p5 : Int32) (a_cacheI : Addr) (h0 : Heap) (n0 : Nat) (Z0 : n0 ≤ h0.size) (O0 : Old Z n0 h0) (S_cacheI : Sta Z Z.heap "java/lang/Integer$IntegerCache" "cache" "[Ljava/lang/Integer;" (.ref a_cacheI)) (BxI : own_BoxI Z a_cacheI) (S_high : Sta Z Z.heap "java/lang/Integer$IntegerCache" "high" "I" (.int (127 : Int32))) :
    MetFree l x (head1 (Jvm.Cond.code x code maxLocals ret :: ws) room_1) (fun a U => a = #[(.long p1), (.long p2), (.int p3), (.int p4), (.int p5)] ∧ Z.Warmed39 U.vm ∧ U.heap = h0) (fun _ _ _ _ _ => True) (fun _ U o U' => ∃ v L, o = .returned v ∧ own_law_Q Z n0 v U'.heap L ∧ FrameEnd U o U' L 48 512) := by
  refine MetFree.of_bodySF own_pn6 hisR ?_
  intro p e s m args below meth c s₁ Bd hml0 hP hK
  obtain ⟨rfl, hZ, hh⟩ := hP
  have hx := Bd.exec
  have hby := Bd.bytes
  have hml : c.maxLocals = 17 := hml0
  have hlk := BodyLoose.notSynchronized Bd
  have hown : s.vm.findClass "com/example/treeloom/treeloom/xdm/NodeEqualsPinLaw" = some m.cls := findClass_of_methodNamed Bd.named
  have hnm := (name_of_methodNamed Bd.named Bd.method).1
  have X0 : Stand p l e room_1 s m #[(.long p1), (.long p2), (.int p3), (.int p4), (.int p5)] below meth c s₁ [] 0 0 := Stand.of_body Bd
  have e0 : s₁.heap = h0 := by rw [← hh, Bd.state]; rfl
  have N0 := Fr.nil n0
  show own_Go p e below s (own_law_Q Z n0) 48 512 (s₁.setTop (entryFrame m #[(.long p1), (.long p2), (.int p3), (.int p4), (.int p5)] maxLocals))
  rw [own_law_ef]
  show own_Go p e below s _ _ _ (s₁.setTop (mkF m 0 #[.val (.long p1), .second, .val (.long p2), .second, .val (.int p3), .val (.int p4), .val (.int p5), .unset, .unset, .unset, .unset, .unset, .unset, .unset, .unset, .unset, .unset] []))
  obtain ⟨T186, h186, X186, e186, E186, A186, D186, -, st186⟩ := newO X0 hx hZ hown (hw _ (List.mem_of_getElem? (i := 0) rfl)) (hw _ (List.mem_of_getElem? (i := 1) rfl)) (hw _ (List.mem_of_getElem? (i := 2) rfl)) e0 (g := (mkF m 0 #[.val (.long p1), .second, .val (.long p2), .second, .val (.int p3), .val (.int p4), .val (.int p5), .unset, .unset, .unset, .unset, .unset, .unset, .unset, .unset, .unset, .unset] [])) rfl (hb hby at_0) (by decide) (by decide)
  obtain ⟨b186, g186⟩ : ∃ z, z = h0.size := ⟨_, rfl⟩
  rw [← g186] at A186 D186 st186
  refine own_st st186 ?_
  have Zs187 : n0 ≤ h186.size := Nat.le_trans Z0 E186.1
  have g188 : n0 ≤ b186 := Nat.le_trans Z0 (Nat.le_of_eq g186.symm)
  have F189 : Fld Z h186 b186 "com/example/treeloom/treeloom/xdm/Tree" "kinds" "[B" .null := D186 (Or.inl (hw _ (List.mem_of_getElem? (i := 11) rfl))) (ty := (.array .byte)) (by decide)
  have F190 : Fld Z h186 b186 "com/example/treeloom/treeloom/xdm/Tree" "parents" "[I" .null := D186 (Or.inl (hw _ (List.mem_of_getElem? (i := 14) rfl))) (ty := (.array .int)) (by decide)
  have F191 : Fld Z h186 b186 "com/example/treeloom/treeloom/xdm/Tree" "ends" "[I" .null := D186 (Or.inl (hw _ (List.mem_of_getElem? (i := 16) rfl))) (ty := (.array .int)) (by decide)
  have F192 : Fld Z h186 b186 "com/example/treeloom/treeloom/xdm/Tree" "names" "[Lcom/example/treeloom/treeloom/xdm/QName;" .null := D186 (Or.inl (hw _ (List.mem_of_getElem? (i := 20) rfl))) (ty := (.array (.object "com/example/treeloom/treeloom/xdm/QName"))) (by decide)
  have F193 : Fld Z h186 b186 "com/example/treeloom/treeloom/xdm/Tree" "values" "[Ljava/lang/String;" .null := D186 (Or.inl (hw _ (List.mem_of_getElem? (i := 24) rfl))) (ty := (.array (.object "java/lang/String"))) (by decide)
  have F194 : Fld Z h186 b186 "com/example/treeloom/treeloom/xdm/Tree" "declarations" "[[Lcom/example/treeloom/treeloom/xdm/NamespaceBinding;" .null := D186 (Or.inl (hw _ (List.mem_of_getElem? (i := 28) rfl))) (ty := (.array (.array (.object "com/example/treeloom/treeloom/xdm/NamespaceBinding")))) (by decide)
  have F195 : Fld Z h186 b186 "com/example/treeloom/treeloom/xdm/Tree" "place" "J" (.long (0 : Int64)) := D186 (Or.inr (hw _ (List.mem_of_getElem? (i := 30) rfl))) (ty := .long) (by decide)
  have F196 : Fld Z h186 b186 "com/example/treeloom/treeloom/xdm/Tree" "serial" "J" (.long (0 : Int64)) := D186 (Or.inr (hw _ (List.mem_of_getElem? (i := 32) rfl))) (ty := .long) (by decide)
  have F197 : Fld Z h186 b186 "com/example/treeloom/treeloom/xdm/Tree" "root" "Lcom/example/treeloom/treeloom/xdm/Node;" .null := D186 (Or.inr (hw _ (List.mem_of_getElem? (i := 45) rfl))) (ty := (.object "com/example/treeloom/treeloom/xdm/Node")) (by decide)
  show own_Go p e below s _ _ _ (T186.setTop (mkF m 3 #[.val (.long p1), .second, .val (.long p2), .second, .val (.int p3), .val (.int p4), .val (.int p5), .unset, .unset, .unset, .unset, .unset, .unset, .unset, .unset, .unset, .unset] [(.ref b186)]))
  refine own_st (fun _ k => XS.dup X186.here hx rfl (hb hby at_3) rfl rfl k) ?_
  show own_Go p e below s _ _ _ (T186.setTop (mkF m 4 #[.val (.long p1), .second, .val (.long p2), .second, .val (.int p3), .val (.int p4), .val (.int p5), .unset, .unset, .unset, .unset, .unset, .unset, .unset, .unset, .unset, .unset] [(.ref b186), (.ref b186)]))
  refine own_st (fun _ k => XT.lloadN X186.here hx rfl (hb hby at_4) rfl k) ?_
  show own_Go p e below s _ _ _ (T186.setTop (mkF m 5 #[.val (.long p1), .second, .val (.long p2), .second, .val (.int p3), .val (.int p4), .val (.int p5), .unset, .unset, .unset, .unset, .unset, .unset, .unset, .unset, .unset, .unset] [(.long p1), (.ref b186), (.ref b186)]))
  refine own_st (fun _ k => XT.lloadN X186.here hx rfl (hb hby at_5) rfl k) ?_
  show own_Go p e below s _ _ _ (T186.setTop (mkF m 6 #[.val (.long p1), .second, .val (.long p2), .second, .val (.int p3), .val (.int p4), .val (.int p5), .unset, .unset, .unset, .unset, .unset, .unset, .unset, .unset, .unset, .unset] [(.long p2), (.long p1), (.ref b186), (.ref b186)]))
  obtain ⟨_, _, ⟨T198, L198, k198, n198⟩, -, X198, ⟨Lc198, hQ198, l198, y198, z198⟩, st198⟩ := X186.specialBack hx (y := (⟨"com/example/treeloom/treeloom/xdm/Tree", "<init>", "(JJ)V"⟩ : MethodName)) rfl hown (mvT hZ (hw _ (List.mem_of_getElem? (i := 3) rfl))) (mvT hZ (hw _ (List.mem_of_getElem? (i := 4) rfl))) (mvT hZ (hw _ (List.mem_of_getElem? (i := 5) rfl))) (by decide) (backOf (W := 1) (own_rm_tree l Z a0 hw [] b186 p1 p2 h186 n0 Zs187 A186 F189 F190 F191 F192 F193 F194 F195 F196 F197 g188) hZ (hw _ (List.mem_of_getElem? (i := 5) rfl)) (hw _ (List.mem_of_getElem? (i := 2) rfl)) (by decide) (by decide)) (g := (mkF m 6 #[.val (.long p1), .second, .val (.long p2), .second, .val (.int p3), .val (.int p4), .val (.int p5), .unset, .unset, .unset, .unset, .unset, .unset, .unset, .unset, .unset, .unset] [(.long p2), (.long p1), (.ref b186), (.ref b186)])) rfl (by rw [hml]; rfl) (Steps.refl _) (a := b186) (argsL := [(.long p1), (.long p2)]) (rest := [(.ref b186)]) (lenOf own_pd3 rfl) rfl (by show 2 * 0 + _ ≤ _; exact Nat.le_of_eq rfl) (hb hby at_6) (fun _ _ => ⟨rfl, e186, (by decide : 1 + 7 ≤ _), (by decide : 10 + 98 ≤ _)⟩)
  dsimp only [Pt.U, Pt.locs, Pt.cells, Pt.slots] at X198 l198 y198 z198 st198 hQ198
  subst l198 y198 z198
  obtain ⟨x199, N198q, rfl, K198, q200, q201, q202, q203, q204, q205⟩ := hQ198
  have N206 := Fr.app N0 N198q
  refine own_tr st198 ?_
  have Zs207 : n0 ≤ T198.heap.size := Nat.le_trans Zs187 K198.1
  have g208 : n0 ≤ x199 := Nat.le_trans Zs187 q200
  show own_Go p e below s _ _ _ (T198.setTop (mkF m 9 #[.val (.long p1), .second, .val (.long p2), .second, .val (.int p3), .val (.int p4), .val (.int p5), .unset, .unset, .unset, .unset, .unset, .unset, .unset, .unset, .unset, .unset] [(.ref b186)]))
  refine own_st (fun _ k => XS.astore X198.here hx rfl (hb hby at_9) rfl rfl (l' := #[.val (.long p1), .second, .val (.long p2), .second, .val (.int p3), .val (.int p4), .val (.int p5), .val (.ref b186), .unset, .unset, .unset, .unset, .unset, .unset, .unset, .unset, .unset]) rfl k) ?_
  show own_Go p e below s _ _ _ (T198.setTop (mkF m 11 #[.val (.long p1), .second, .val (.long p2), .second, .val (.int p3), .val (.int p4), .val (.int p5), .val (.ref b186), .unset, .unset, .unset, .unset, .unset, .unset, .unset, .unset, .unset] []))
  obtain ⟨T209, h209, X209, e209, E209, A209, D209, -, st209⟩ := newO X198 hx hZ hown (hw _ (List.mem_of_getElem? (i := 0) rfl)) (hw _ (List.mem_of_getElem? (i := 1) rfl)) (hw _ (List.mem_of_getElem? (i := 2) rfl)) rfl (g := (mkF m 11 #[.val (.long p1), .second, .val (.long p2), .second, .val (.int p3), .val (.int p4), .val (.int p5), .val (.ref b186), .unset, .unset, .unset, .unset, .unset, .unset, .unset, .unset, .unset] [])) rfl (hb hby at_11) (by decide) (by decide)
  obtain ⟨b209, g209⟩ : ∃ z, z = T198.heap.size := ⟨_, rfl⟩
  rw [← g209] at A209 D209 st209
  refine own_st st209 ?_
  have Zs210 : n0 ≤ h209.size := Nat.le_trans Zs207 E209.1
  have g211 : n0 ≤ b209 := Nat.le_trans Zs207 (Nat.le_of_eq g209.symm)
  have F212 : Fld Z h209 b209 "com/example/treeloom/treeloom/xdm/Tree" "kinds" "[B" .null := D209 (Or.inl (hw _ (List.mem_of_getElem? (i := 11) rfl))) (ty := (.array .byte)) (by decide)
  have F213 : Fld Z h209 b209 "com/example/treeloom/treeloom/xdm/Tree" "parents" "[I" .null := D209 (Or.inl (hw _ (List.mem_of_getElem? (i := 14) rfl))) (ty := (.array .int)) (by decide)
  have F214 : Fld Z h209 b209 "com/example/treeloom/treeloom/xdm/Tree" "ends" "[I" .null := D209 (Or.inl (hw _ (List.mem_of_getElem? (i := 16) rfl))) (ty := (.array .int)) (by decide)
  have F215 : Fld Z h209 b209 "com/example/treeloom/treeloom/xdm/Tree" "names" "[Lcom/example/treeloom/treeloom/xdm/QName;" .null := D209 (Or.inl (hw _ (List.mem_of_getElem? (i := 20) rfl))) (ty := (.array (.object "com/example/treeloom/treeloom/xdm/QName"))) (by decide)
  have F216 : Fld Z h209 b209 "com/example/treeloom/treeloom/xdm/Tree" "values" "[Ljava/lang/String;" .null := D209 (Or.inl (hw _ (List.mem_of_getElem? (i := 24) rfl))) (ty := (.array (.object "java/lang/String"))) (by decide)
  have F217 : Fld Z h209 b209 "com/example/treeloom/treeloom/xdm/Tree" "declarations" "[[Lcom/example/treeloom/treeloom/xdm/NamespaceBinding;" .null := D209 (Or.inl (hw _ (List.mem_of_getElem? (i := 28) rfl))) (ty := (.array (.array (.object "com/example/treeloom/treeloom/xdm/NamespaceBinding")))) (by decide)
  have F218 : Fld Z h209 b209 "com/example/treeloom/treeloom/xdm/Tree" "place" "J" (.long (0 : Int64)) := D209 (Or.inr (hw _ (List.mem_of_getElem? (i := 30) rfl))) (ty := .long) (by decide)
  have F219 : Fld Z h209 b209 "com/example/treeloom/treeloom/xdm/Tree" "serial" "J" (.long (0 : Int64)) := D209 (Or.inr (hw _ (List.mem_of_getElem? (i := 32) rfl))) (ty := .long) (by decide)
  have F220 : Fld Z h209 b209 "com/example/treeloom/treeloom/xdm/Tree" "root" "Lcom/example/treeloom/treeloom/xdm/Node;" .null := D209 (Or.inr (hw _ (List.mem_of_getElem? (i := 45) rfl))) (ty := (.object "com/example/treeloom/treeloom/xdm/Node")) (by decide)
  show own_Go p e below s _ _ _ (T209.setTop (mkF m 14 #[.val (.long p1), .second, .val (.long p2), .second, .val (.int p3), .val (.int p4), .val (.int p5), .val (.ref b186), .unset, .unset, .unset, .unset, .unset, .unset, .unset, .unset, .unset] [(.ref b209)]))
  refine own_st (fun _ k => XS.dup X209.here hx rfl (hb hby at_14) rfl rfl k) ?_
  show own_Go p e below s _ _ _ (T209.setTop (mkF m 15 #[.val (.long p1), .second, .val (.long p2), .second, .val (.int p3), .val (.int p4), .val (.int p5), .val (.ref b186), .unset, .unset, .unset, .unset, .unset, .unset, .unset, .unset, .unset] [(.ref b209), (.ref b209)]))
  refine own_st (fun _ k => XT.lloadN X209.here hx rfl (hb hby at_15) rfl k) ?_
  show own_Go p e below s _ _ _ (T209.setTop (mkF m 16 #[.val (.long p1), .second, .val (.long p2), .second, .val (.int p3), .val (.int p4), .val (.int p5), .val (.ref b186), .unset, .unset, .unset, .unset, .unset, .unset, .unset, .unset, .unset] [(.long p1), (.ref b209), (.ref b209)]))
  refine own_st (fun _ k => XT.lloadN X209.here hx rfl (hb hby at_16) rfl k) ?_
  show own_Go p e below s _ _ _ (T209.setTop (mkF m 17 #[.val (.long p1), .second, .val (.long p2), .second, .val (.int p3), .val (.int p4), .val (.int p5), .val (.ref b186), .unset, .unset, .unset, .unset, .unset, .unset, .unset, .unset, .unset] [(.long p2), (.long p1), (.ref b209), (.ref b209)]))
  obtain ⟨_, _, ⟨T221, L221, k221, n221⟩, -, X221, ⟨Lc221, hQ221, l221, y221, z221⟩, st221⟩ := X209.specialBack hx (y := (⟨"com/example/treeloom/treeloom/xdm/Tree", "<init>", "(JJ)V"⟩ : MethodName)) rfl hown (mvT hZ (hw _ (List.mem_of_getElem? (i := 3) rfl))) (mvT hZ (hw _ (List.mem_of_getElem? (i := 4) rfl))) (mvT hZ (hw _ (List.mem_of_getElem? (i := 5) rfl))) (by decide) (backOf (W := 1) (own_rm_tree l Z a0 hw [] b209 p1 p2 h209 n0 Zs210 A209 F212 F213 F214 F215 F216 F217 F218 F219 F220 g211) hZ (hw _ (List.mem_of_getElem? (i := 5) rfl)) (hw _ (List.mem_of_getElem? (i := 2) rfl)) (by decide) (by decide)) (g := (mkF m 17 #[.val (.long p1), .second, .val (.long p2), .second, .val (.int p3), .val (.int p4), .val (.int p5), .val (.ref b186), .unset, .unset, .unset, .unset, .unset, .unset, .unset, .unset, .unset] [(.long p2), (.long p1), (.ref b209), (.ref b209)])) rfl (by rw [hml]; rfl) (Steps.refl _) (a := b209) (argsL := [(.long p1), (.long p2)]) (rest := [(.ref b209)]) (lenOf own_pd3 rfl) rfl (by show 2 * 0 + _ ≤ _; exact Nat.le_of_eq rfl) (hb hby at_17) (fun _ _ => ⟨rfl, e209, (by decide : 9 + 7 ≤ _), (by decide : 118 + 98 ≤ _)⟩)
  dsimp only [Pt.U, Pt.locs, Pt.cells, Pt.slots] at X221 l221 y221 z221 st221 hQ221
  subst l221 y221 z221
  obtain ⟨x222, N221q, rfl, K221, q223, q224, q225, q226, q227, q228⟩ := hQ221
  have N229 := Fr.app N206 N221q
  refine own_tr st221 ?_
  have Zs230 : n0 ≤ T221.heap.size := Nat.le_trans Zs210 K221.1
  have g231 : n0 ≤ x222 := Nat.le_trans Zs210 q223
  show own_Go p e below s _ _ _ (T221.setTop (mkF m 20 #[.val (.long p1), .second, .val (.long p2), .second, .val (.int p3), .val (.int p4), .val (.int p5), .val (.ref b186), .unset, .unset, .unset, .unset, .unset, .unset, .unset, .unset, .unset] [(.ref b209)]))
  refine own_st (fun _ k => XS.astore X221.here hx rfl (hb hby at_20) rfl rfl (l' := #[.val (.long p1), .second, .val (.long p2), .second, .val (.int p3), .val (.int p4), .val (.int p5), .val (.ref b186), .val (.ref b209), .unset, .unset, .unset, .unset, .unset, .unset, .unset, .unset]) rfl k) ?_
  show own_Go p e below s _ _ _ (T221.setTop (mkF m 22 #[.val (.long p1), .second, .val (.long p2), .second, .val (.int p3), .val (.int p4), .val (.int p5), .val (.ref b186), .val (.ref b209), .unset, .unset, .unset, .unset, .unset, .unset, .unset, .unset] []))
  refine own_st (fun _ k => XS.iload X221.here hx rfl (hb hby at_22) rfl k) ?_
  show own_Go p e below s _ _ _ (T221.setTop (mkF m 24 #[.val (.long p1), .second, .val (.long p2), .second, .val (.int p3), .val (.int p4), .val (.int p5), .val (.ref b186), .val (.ref b209), .unset, .unset, .unset, .unset, .unset, .unset, .unset, .unset] [(.int p5)]))
  refine own_st (fun _ k => XT.iconstV X221.here hx rfl (1 : Int32) (hb hby at_24) (by decide) k) ?_
  show own_Go p e below s _ _ _ (T221.setTop (mkF m 25 #[.val (.long p1), .second, .val (.long p2), .second, .val (.int p3), .val (.int p4), .val (.int p5), .val (.ref b186), .val (.ref b209), .unset, .unset, .unset, .unset, .unset, .unset, .unset, .unset] [(.int (1 : Int32)), (.int p5)]))
  refine own_st (fun _ k => XS.iand X221.here hx rfl (hb hby at_25) rfl k) ?_
  show own_Go p e below s _ _ _ (T221.setTop (mkF m 26 #[.val (.long p1), .second, .val (.long p2), .second, .val (.int p3), .val (.int p4), .val (.int p5), .val (.ref b186), .val (.ref b209), .unset, .unset, .unset, .unset, .unset, .unset, .unset, .unset] [(.int (p5 &&& (1 : Int32)))]))
  by_cases hc232 : (p5 &&& (1 : Int32)) = 0
  · refine own_st (fun _ k => XS.ifYes X221.here hx rfl (pc0 := 26) (pc' := 33) rfl (hb hby at_26) rfl (XT.i0_eq_t hc232) (by decide) (by decide) k) ?_
    show own_Go p e below s _ _ _ (T221.setTop (mkF m 33 #[.val (.long p1), .second, .val (.long p2), .second, .val (.int p3), .val (.int p4), .val (.int p5), .val (.ref b186), .val (.ref b209), .unset, .unset, .unset, .unset, .unset, .unset, .unset, .unset] []))
    refine own_st (fun _ k => XT.iconstV X221.here hx rfl (0 : Int32) (hb hby at_33) (by decide) k) ?_
    show own_Go p e below s _ _ _ (T221.setTop (mkF m 34 #[.val (.long p1), .second, .val (.long p2), .second, .val (.int p3), .val (.int p4), .val (.int p5), .val (.ref b186), .val (.ref b209), .unset, .unset, .unset, .unset, .unset, .unset, .unset, .unset] [(.int (0 : Int32))]))
    refine own_st (fun _ k => XS.istore X221.here hx rfl (hb hby at_34) rfl (l' := #[.val (.long p1), .second, .val (.long p2), .second, .val (.int p3), .val (.int p4), .val (.int p5), .val (.ref b186), .val (.ref b209), .val (.int (0 : Int32)), .unset, .unset, .unset, .unset, .unset, .unset, .unset]) rfl k) ?_
    show own_Go p e below s _ _ _ (T221.setTop (mkF m 36 #[.val (.long p1), .second, .val (.long p2), .second, .val (.int p3), .val (.int p4), .val (.int p5), .val (.ref b186), .val (.ref b209), .val (.int (0 : Int32)), .unset, .unset, .unset, .unset, .unset, .unset, .unset] []))
    refine own_st (fun _ k => XS.iload X221.here hx rfl (hb hby at_36) rfl k) ?_
    show own_Go p e below s _ _ _ (T221.setTop (mkF m 38 #[.val (.long p1), .second, .val (.long p2), .second, .val (.int p3), .val (.int p4), .val (.int p5), .val (.ref b186), .val (.ref b209), .val (.int (0 : Int32)), .unset, .unset, .unset, .unset, .unset, .unset, .unset] [(.int p5)]))
    refine own_st (fun _ k => XT.iconstV X221.here hx rfl (1 : Int32) (hb hby at_38) (by decide) k) ?_
    show own_Go p e below s _ _ _ (T221.setTop (mkF m 39 #[.val (.long p1), .second, .val (.long p2), .second, .val (.int p3), .val (.int p4), .val (.int p5), .val (.ref b186), .val (.ref b209), .val (.int (0 : Int32)), .unset, .unset, .unset, .unset, .unset, .unset, .unset] [(.int (1 : Int32)), (.int p5)]))
    refine own_st (fun _ k => XT.ishr X221.here hx rfl (hb hby at_39) rfl k) ?_
    show own_Go p e below s _ _ _ (T221.setTop (mkF m 40 #[.val (.long p1), .second, .val (.long p2), .second, .val (.int p3), .val (.int p4), .val (.int p5), .val (.ref b186), .val (.ref b209), .val (.int (0 : Int32)), .unset, .unset, .unset, .unset, .unset, .unset, .unset] [(.int (p5 >>> ((1 : Int32) &&& 31)))]))
    refine own_st (fun _ k => XT.iconstV X221.here hx rfl (1 : Int32) (hb hby at_40) (by decide) k) ?_
    show own_Go p e below s _ _ _ (T221.setTop (mkF m 41 #[.val (.long p1), .second, .val (.long p2), .second, .val (.int p3), .val (.int p4), .val (.int p5), .val (.ref b186), .val (.ref b209), .val (.int (0 : Int32)), .unset, .unset, .unset, .unset, .unset, .unset, .unset] [(.int (1 : Int32)), (.int (p5 >>> ((1 : Int32) &&& 31)))]))
    refine own_st (fun _ k => XS.iand X221.here hx rfl (hb hby at_41) rfl k) ?_
    show own_Go p e below s _ _ _ (T221.setTop (mkF m 42 #[.val (.long p1), .second, .val (.long p2), .second, .val (.int p3), .val (.int p4), .val (.int p5), .val (.ref b186), .val (.ref b209), .val (.int (0 : Int32)), .unset, .unset, .unset, .unset, .unset, .unset, .unset] [(.int ((p5 >>> ((1 : Int32) &&& 31)) &&& (1 : Int32)))]))
    by_cases hc233 : ((p5 >>> ((1 : Int32) &&& 31)) &&& (1 : Int32)) = 0
    · refine own_st (fun _ k => XS.ifYes X221.here hx rfl (pc0 := 42) (pc' := 50) rfl (hb hby at_42) rfl (XT.i0_eq_t hc233) (by decide) (by decide) k) ?_
      show own_Go p e below s _ _ _ (T221.setTop (mkF m 50 #[.val (.long p1), .second, .val (.long p2), .second, .val (.int p3), .val (.int p4), .val (.int p5), .val (.ref b186), .val (.ref b209), .val (.int (0 : Int32)), .unset, .unset, .unset, .unset, .unset, .unset, .unset] []))
      refine own_st (fun _ k => XS.iload X221.here hx rfl (hb hby at_50) rfl k) ?_
      show own_Go p e below s _ _ _ (T221.setTop (mkF m 52 #[.val (.long p1), .second, .val (.long p2), .second, .val (.int p3), .val (.int p4), .val (.int p5), .val (.ref b186), .val (.ref b209), .val (.int (0 : Int32)), .unset, .unset, .unset, .unset, .unset, .unset, .unset] [(.int p4)]))
      refine own_st (fun _ k => XS.istore X221.here hx rfl (hb hby at_52) rfl (l' := #[.val (.long p1), .second, .val (.long p2), .second, .val (.int p3), .val (.int p4), .val (.int p5), .val (.ref b186), .val (.ref b209), .val (.int (0 : Int32)), .val (.int p4), .unset, .unset, .unset, .unset, .unset, .unset]) rfl k) ?_
      show own_Go p e below s _ _ _ (T221.setTop (mkF m 54 #[.val (.long p1), .second, .val (.long p2), .second, .val (.int p3), .val (.int p4), .val (.int p5), .val (.ref b186), .val (.ref b209), .val (.int (0 : Int32)), .val (.int p4), .unset, .unset, .unset, .unset, .unset, .unset] []))
      refine own_st (fun _ k => XS.iload X221.here hx rfl (hb hby at_54) rfl k) ?_
      show own_Go p e below s _ _ _ (T221.setTop (mkF m 56 #[.val (.long p1), .second, .val (.long p2), .second, .val (.int p3), .val (.int p4), .val (.int p5), .val (.ref b186), .val (.ref b209), .val (.int (0 : Int32)), .val (.int p4), .unset, .unset, .unset, .unset, .unset, .unset] [(.int p5)]))
      refine own_st (fun _ k => XT.iconstV X221.here hx rfl (2 : Int32) (hb hby at_56) (by decide) k) ?_
      show own_Go p e below s _ _ _ (T221.setTop (mkF m 57 #[.val (.long p1), .second, .val (.long p2), .second, .val (.int p3), .val (.int p4), .val (.int p5), .val (.ref b186), .val (.ref b209), .val (.int (0 : Int32)), .val (.int p4), .unset, .unset, .unset, .unset, .unset, .unset] [(.int (2 : Int32)), (.int p5)]))
      refine own_st (fun _ k => XT.ishr X221.here hx rfl (hb hby at_57) rfl k) ?_
      show own_Go p e below s _ _ _ (T221.setTop (mkF m 58 #[.val (.long p1), .second, .val (.long p2), .second, .val (.int p3), .val (.int p4), .val (.int p5), .val (.ref b186), .val (.ref b209), .val (.int (0 : Int32)), .val (.int p4), .unset, .unset, .unset, .unset, .unset, .unset] [(.int (p5 >>> ((2 : Int32) &&& 31)))]))
      refine own_st (fun _ k => XT.iconstV X221.here hx rfl (3 : Int32) (hb hby at_58) (by decide) k) ?_
      show own_Go p e below s _ _ _ (T221.setTop (mkF m 59 #[.val (.long p1), .second, .val (.long p2), .second, .val (.int p3), .val (.int p4), .val (.int p5), .val (.ref b186), .val (.ref b209), .val (.int (0 : Int32)), .val (.int p4), .unset, .unset, .unset, .unset, .unset, .unset] [(.int (3 : Int32)), (.int (p5 >>> ((2 : Int32) &&& 31)))]))
      refine own_st (fun _ k => XS.iand X221.here hx rfl (hb hby at_59) rfl k) ?_
      show own_Go p e below s _ _ _ (T221.setTop (mkF m 60 #[.val (.long p1), .second, .val (.long p2), .second, .val (.int p3), .val (.int p4), .val (.int p5), .val (.ref b186), .val (.ref b209), .val (.int (0 : Int32)), .val (.int p4), .unset, .unset, .unset, .unset, .unset, .unset] [(.int ((p5 >>> ((2 : Int32) &&& 31)) &&& (3 : Int32)))]))
      refine own_st (fun _ k => XS.istore X221.here hx rfl (hb hby at_60) rfl (l' := #[.val (.long p1), .second, .val (.long p2), .second, .val (.int p3), .val (.int p4), .val (.int p5), .val (.ref b186), .val (.ref b209), .val (.int (0 : Int32)), .val (.int p4), .val (.int ((p5 >>> ((2 : Int32) &&& 31)) &&& (3 : Int32))), .unset, .unset, .unset, .unset, .unset]) rfl k) ?_
      show own_Go p e below s _ _ _ (T221.setTop (mkF m 62 #[.val (.long p1), .second, .val (.long p2), .second, .val (.int p3), .val (.int p4), .val (.int p5), .val (.ref b186), .val (.ref b209), .val (.int (0 : Int32)), .val (.int p4), .val (.int ((p5 >>> ((2 : Int32) &&& 31)) &&& (3 : Int32))), .unset, .unset, .unset, .unset, .unset] []))
      refine own_st (fun _ k => XS.iload X221.here hx rfl (hb hby at_62) rfl k) ?_
      show own_Go p e below s _ _ _ (T221.setTop (mkF m 64 #[.val (.long p1), .second, .val (.long p2), .second, .val (.int p3), .val (.int p4), .val (.int p5), .val (.ref b186), .val (.ref b209), .val (.int (0 : Int32)), .val (.int p4), .val (.int ((p5 >>> ((2 : Int32) &&& 31)) &&& (3 : Int32))), .unset, .unset, .unset, .unset, .unset] [(.int (0 : Int32))]))
      refine own_st (fun _ k => XS.ifYes X221.here hx rfl (pc0 := 64) (pc' := 72) rfl (hb hby at_64) rfl (XT.i0_eq_t (by decide)) (by decide) (by decide) k) ?_
      show own_Go p e below s _ _ _ (T221.setTop (mkF m 72 #[.val (.long p1), .second, .val (.long p2), .second, .val (.int p3), .val (.int p4), .val (.int p5), .val (.ref b186), .val (.ref b209), .val (.int (0 : Int32)), .val (.int p4), .val (.int ((p5 >>> ((2 : Int32) &&& 31)) &&& (3 : Int32))), .unset, .unset, .unset, .unset, .unset] []))
      refine own_st (fun _ k => XS.aload X221.here hx rfl (hb hby at_72) rfl rfl k) ?_
      show own_Go p e below s _ _ _ (T221.setTop (mkF m 74 #[.val (.long p1), .second, .val (.long p2), .second, .val (.int p3), .val (.int p4), .val (.int p5), .val (.ref b186), .val (.ref b209), .val (.int (0 : Int32)), .val (.int p4), .val (.int ((p5 >>> ((2 : Int32) &&& 31)) &&& (3 : Int32))), .unset, .unset, .unset, .unset, .unset] [(.ref b209)]))
      refine own_st (fun _ k => XS.astore X221.here hx rfl (hb hby at_74) rfl rfl (l' := #[.val (.long p1), .second, .val (.long p2), .second, .val (.int p3), .val (.int p4), .val (.int p5), .val (.ref b186), .val (.ref b209), .val (.int (0 : Int32)), .val (.int p4), .val (.int ((p5 >>> ((2 : Int32) &&& 31)) &&& (3 : Int32))), .val (.ref b209), .unset, .unset, .unset, .unset]) rfl k) ?_
      show own_Go p e below s _ _ _ (T221.setTop (mkF m 76 #[.val (.long p1), .second, .val (.long p2), .second, .val (.int p3), .val (.int p4), .val (.int p5), .val (.ref b186), .val (.ref b209), .val (.int (0 : Int32)), .val (.int p4), .val (.int ((p5 >>> ((2 : Int32) &&& 31)) &&& (3 : Int32))), .val (.ref b209), .unset, .unset, .unset, .unset] []))
      obtain ⟨T234, h234, X234, e234, E234, A234, D234, -, st234⟩ := newO X221 hx hZ hown (hw _ (List.mem_of_getElem? (i := 46) rfl)) (hw _ (List.mem_of_getElem? (i := 34) rfl)) (hw _ (List.mem_of_getElem? (i := 35) rfl)) rfl (g := (mkF m 76 #[.val (.long p1), .second, .val (.long p2), .second, .val (.int p3), .val (.int p4), .val (.int p5), .val (.ref b186), .val (.ref b209), .val (.int (0 : Int32)), .val (.int p4), .val (.int ((p5 >>> ((2 : Int32) &&& 31)) &&& (3 : Int32))), .val (.ref b209), .unset, .unset, .unset, .unset] [])) rfl (hb hby at_76) (by decide) (by decide)
      obtain ⟨b234, g234⟩ : ∃ z, z = T221.heap.size := ⟨_, rfl⟩
      rw [← g234] at A234 D234 st234
      refine own_st st234 ?_
      have Zs235 : n0 ≤ h234.size := Nat.le_trans Zs230 E234.1
      have g236 : n0 ≤ b234 := Nat.le_trans Zs230 (Nat.le_of_eq g234.symm)
      have F237 : Fld Z h234 b234 "com/example/treeloom/treeloom/xdm/Node" "tree" "Lcom/example/treeloom/treeloom/xdm/Tree;" .null := D234 (Or.inr (hw _ (List.mem_of_getElem? (i := 41) rfl))) (ty := (.object "com/example/treeloom/treeloom/xdm/Tree")) (by decide)
      have F238 : Fld Z h234 b234 "com/example/treeloom/treeloom/xdm/Node" "index" "I" (.int (0 : Int32)) := D234 (Or.inr (hw _ (List.mem_of_getElem? (i := 43) rfl))) (ty := .int) (by decide)
      show own_Go p e below s _ _ _ (T234.setTop (mkF m 79 #[.val (.long p1), .second, .val (.long p2), .second, .val (.int p3), .val (.int p4), .val (.int p5), .val (.ref b186), .val (.ref b209), .val (.int (0 : Int32)), .val (.int p4), .val (.int ((p5 >>> ((2 : Int32) &&& 31)) &&& (3 : Int32))), .val (.ref b209), .unset, .unset, .unset, .unset] [(.ref b234)]))
      refine own_st (fun _ k => XS.dup X234.here hx rfl (hb hby at_79) rfl rfl k) ?_
      show own_Go p e below s _ _ _ (T234.setTop (mkF m 80 #[.val (.long p1), .second, .val (.long p2), .second, .val (.int p3), .val (.int p4), .val (.int p5), .val (.ref b186), .val (.ref b209), .val (.int (0 : Int32)), .val (.int p4), .val (.int ((p5 >>> ((2 : Int32) &&& 31)) &&& (3 : Int32))), .val (.ref b209), .unset, .unset, .unset, .unset] [(.ref b234), (.ref b234)]))
      refine own_st (fun _ k => XS.aload X234.here hx rfl (hb hby at_80) rfl rfl k) ?_
      show own_Go p e below s _ _ _ (T234.setTop (mkF m 82 #[.val (.long p1), .second, .val (.long p2), .second, .val (.int p3), .val (.int p4), .val (.int p5), .val (.ref b186), .val (.ref b209), .val (.int (0 : Int32)), .val (.int p4), .val (.int ((p5 >>> ((2 : Int32) &&& 31)) &&& (3 : Int32))), .val (.ref b209), .unset, .unset, .unset, .unset] [(.ref b186), (.ref b234), (.ref b234)]))
      refine own_st (fun _ k => XS.iload X234.here hx rfl (hb hby at_82) rfl k) ?_
      show own_Go p e below s _ _ _ (T234.setTop (mkF m 84 #[.val (.long p1), .second, .val (.long p2), .second, .val (.int p3), .val (.int p4), .val (.int p5), .val (.ref b186), .val (.ref b209), .val (.int (0 : Int32)), .val (.int p4), .val (.int ((p5 >>> ((2 : Int32) &&& 31)) &&& (3 : Int32))), .val (.ref b209), .unset, .unset, .unset, .unset] [(.int p3), (.ref b186), (.ref b234), (.ref b234)]))
      obtain ⟨_, _, ⟨T239, L239, k239, n239⟩, -, X239, ⟨Lc239, hQ239, l239, y239, z239⟩, st239⟩ := X234.specialBack hx (y := (⟨"com/example/treeloom/treeloom/xdm/Node", "<init>", "(Lcom/example/treeloom/treeloom/xdm/Tree;I)V"⟩ : MethodName)) rfl hown (mvT hZ (hw _ (List.mem_of_getElem? (i := 47) rfl))) (mvT hZ (hw _ (List.mem_of_getElem? (i := 37) rfl))) (mvT hZ (hw _ (List.mem_of_getElem? (i := 38) rfl))) (by decide) (backOf (W := 1) (own_rm_node l Z a0 hw [] b234 b186 p3 h234 n0 Zs235 A234 F237 F238 g236) hZ (hw _ (List.mem_of_getElem? (i := 38) rfl)) (hw _ (List.mem_of_getElem? (i := 35) rfl)) (by decide) (by decide)) (g := (mkF m 84 #[.val (.long p1), .second, .val (.long p2), .second, .val (.int p3), .val (.int p4), .val (.int p5), .val (.ref b186), .val (.ref b209), .val (.int (0 : Int32)), .val (.int p4), .val (.int ((p5 >>> ((2 : Int32) &&& 31)) &&& (3 : Int32))), .val (.ref b209), .unset, .unset, .unset, .unset] [(.int p3), (.ref b186), (.ref b234), (.ref b234)])) rfl (by rw [hml]; rfl) (Steps.refl _) (a := b234) (argsL := [(.ref b186), (.int p3)]) (rest := [(.ref b234)]) (lenOf own_pd2 rfl) rfl (by show 2 * 0 + _ ≤ _; exact Nat.le_of_eq rfl) (hb hby at_84) (fun _ _ => ⟨rfl, e234, (by decide : 17 + 0 ≤ _), (by decide : 218 + 0 ≤ _)⟩)
      dsimp only [Pt.U, Pt.locs, Pt.cells, Pt.slots] at X239 l239 y239 z239 st239 hQ239
      subst l239 y239 z239
      obtain ⟨N239q, rfl, K239, q240, q241, q242⟩ := hQ239
      have N243 := Fr.app N229 N239q
      refine own_tr st239 ?_
      have Zs244 : n0 ≤ T239.heap.size := Nat.le_trans Zs235 K239.1
      show own_Go p e below s _ _ _ (T239.setTop (mkF m 87 #[.val (.long p1), .second, .val (.long p2), .second, .val (.int p3), .val (.int p4), .val (.int p5), .val (.ref b186), .val (.ref b209), .val (.int (0 : Int32)), .val (.int p4), .val (.int ((p5 >>> ((2 : Int32) &&& 31)) &&& (3 : Int32))), .val (.ref b209), .unset, .unset, .unset, .unset] [(.ref b234)]))
      refine own_st (fun _ k => XS.astore X239.here hx rfl (hb hby at_87) rfl rfl (l' := #[.val (.long p1), .second, .val (.long p2), .second, .val (.int p3), .val (.int p4), .val (.int p5), .val (.ref b186), .val (.ref b209), .val (.int (0 : Int32)), .val (.int p4), .val (.int ((p5 >>> ((2 : Int32) &&& 31)) &&& (3 : Int32))), .val (.ref b209), .val (.ref b234), .unset, .unset, .unset]) rfl k) ?_
      show own_Go p e below s _ _ _ (T239.setTop (mkF m 89 #[.val (.long p1), .second, .val (.long p2), .second, .val (.int p3), .val (.int p4), .val (.int p5), .val (.ref b186), .val (.ref b209), .val (.int (0 : Int32)), .val (.int p4), .val (.int ((p5 >>> ((2 : Int32) &&& 31)) &&& (3 : Int32))), .val (.ref b209), .val (.ref b234), .unset, .unset, .unset] []))
      obtain ⟨T245, h245, X245, e245, E245, A245, D245, -, st245⟩ := newO X239 hx hZ hown (hw _ (List.mem_of_getElem? (i := 46) rfl)) (hw _ (List.mem_of_getElem? (i := 34) rfl)) (hw _ (List.mem_of_getElem? (i := 35) rfl)) rfl (g := (mkF m 89 #[.val (.long p1), .second, .val (.long p2), .second, .val (.int p3), .val (.int p4), .val (.int p5), .val (.ref b186), .val (.ref b209), .val (.int (0 : Int32)), .val (.int p4), .val (.int ((p5 >>> ((2 : Int32) &&& 31)) &&& (3 : Int32))), .val (.ref b209), .val (.ref b234), .unset, .unset, .unset] [])) rfl (hb hby at_89) (by decide) (by decide)
      obtain ⟨b245, g245⟩ : ∃ z, z = T239.heap.size := ⟨_, rfl⟩
      rw [← g245] at A245 D245 st245
      refine own_st st245 ?_
      have Zs246 : n0 ≤ h245.size := Nat.le_trans Zs244 E245.1
      have g247 : n0 ≤ b245 := Nat.le_trans Zs244 (Nat.le_of_eq g245.symm)
      have F248 : Fld Z h245 b245 "com/example/treeloom/treeloom/xdm/Node" "tree" "Lcom/example/treeloom/treeloom/xdm/Tree;" .null := D245 (Or.inr (hw _ (List.mem_of_getElem? (i := 41) rfl))) (ty := (.object "com/example/treeloom/treeloom/xdm/Tree")) (by decide)
      have F249 : Fld Z h245 b245 "com/example/treeloom/treeloom/xdm/Node" "index" "I" (.int (0 : Int32)) := D245 (Or.inr (hw _ (List.mem_of_getElem? (i := 43) rfl))) (ty := .int) (by decide)
      show own_Go p e below s _ _ _ (T245.setTop (mkF m 92 #[.val (.long p1), .second, .val (.long p2), .second, .val (.int p3), .val (.int p4), .val (.int p5), .val (.ref b186), .val (.ref b209), .val (.int (0 : Int32)), .val (.int p4), .val (.int ((p5 >>> ((2 : Int32) &&& 31)) &&& (3 : Int32))), .val (.ref b209), .val (.ref b234), .unset, .unset, .unset] [(.ref b245)]))
      refine own_st (fun _ k => XS.dup X245.here hx rfl (hb hby at_92) rfl rfl k) ?_
      show own_Go p e below s _ _ _ (T245.setTop (mkF m 93 #[.val (.long p1), .second, .val (.long p2), .second, .val (.int p3), .val (.int p4), .val (.int p5), .val (.ref b186), .val (.ref b209), .val (.int (0 : Int32)), .val (.int p4), .val (.int ((p5 >>> ((2 : Int32) &&& 31)) &&& (3 : Int32))), .val (.ref b209), .val (.ref b234), .unset, .unset, .unset] [(.ref b245), (.ref b245)]))
      refine own_st (fun _ k => XS.aload X245.here hx rfl (hb hby at_93) rfl rfl k) ?_
      show own_Go p e below s _ _ _ (T245.setTop (mkF m 95 #[.val (.long p1), .second, .val (.long p2), .second, .val (.int p3), .val (.int p4), .val (.int p5), .val (.ref b186), .val (.ref b209), .val (.int (0 : Int32)), .val (.int p4), .val (.int ((p5 >>> ((2 : Int32) &&& 31)) &&& (3 : Int32))), .val (.ref b209), .val (.ref b234), .unset, .unset, .unset] [(.ref b209), (.ref b245), (.ref b245)]))
      refine own_st (fun _ k => XS.iload X245.here hx rfl (hb hby at_95) rfl k) ?_
      show own_Go p e below s _ _ _ (T245.setTop (mkF m 97 #[.val (.long p1), .second, .val (.long p2), .second, .val (.int p3), .val (.int p4), .val (.int p5), .val (.ref b186), .val (.ref b209), .val (.int (0 : Int32)), .val (.int p4), .val (.int ((p5 >>> ((2 : Int32) &&& 31)) &&& (3 : Int32))), .val (.ref b209), .val (.ref b234), .unset, .unset, .unset] [(.int p4), (.ref b209), (.ref b245), (.ref b245)]))
      obtain ⟨_, _, ⟨T250, L250, k250, n250⟩, -, X250, ⟨Lc250, hQ250, l250, y250, z250⟩, st250⟩ := X245.specialBack hx (y := (⟨"com/example/treeloom/treeloom/xdm/Node", "<init>", "(Lcom/example/treeloom/treeloom/xdm/Tree;I)V"⟩ : MethodName)) rfl hown (mvT hZ (hw _ (List.mem_of_getElem? (i := 47) rfl))) (mvT hZ (hw _ (List.mem_of_getElem? (i := 37) rfl))) (mvT hZ (hw _ (List.mem_of_getElem? (i := 38) rfl))) (by decide) (backOf (W := 1) (own_rm_node l Z a0 hw [] b245 b209 p4 h245 n0 Zs246 A245 F248 F249 g247) hZ (hw _ (List.mem_of_getElem? (i := 38) rfl)) (hw _ (List.mem_of_getElem? (i := 35) rfl)) (by decide) (by decide)) (g := (mkF m 97 #[.val (.long p1), .second, .val (.long p2), .second, .val (.int p3), .val (.int p4), .val (.int p5), .val (.ref b186), .val (.ref b209), .val (.int (0 : Int32)), .val (.int p4), .val (.int ((p5 >>> ((2 : Int32) &&& 31)) &&& (3 : Int32))), .val (.ref b209), .val (.ref b234), .unset, .unset, .unset] [(.int p4), (.ref b209), (.ref b245), (.ref b245)])) rfl (by rw [hml]; rfl) (Steps.refl _) (a := b245) (argsL := [(.ref b209), (.int p4)]) (rest := [(.ref b245)]) (lenOf own_pd2 rfl) rfl (by show 2 * 0 + _ ≤ _; exact Nat.le_of_eq rfl) (hb hby at_97) (fun _ _ => ⟨rfl, e245, (by decide : 18 + 0 ≤ _), (by decide : 220 + 0 ≤ _)⟩)
      dsimp only [Pt.U, Pt.locs, Pt.cells, Pt.slots] at X250 l250 y250 z250 st250 hQ250
      subst l250 y250 z250
      obtain ⟨N250q, rfl, K250, q251, q252, q253⟩ := hQ250
      have N254 := Fr.app N243 N250q
      refine own_tr st250 ?_
      have Zs255 : n0 ≤ T250.heap.size := Nat.le_trans Zs246 K250.1
      show own_Go p e below s _ _ _ (T250.setTop (mkF m 100 #[.val (.long p1), .second, .val (.long p2), .second, .val (.int p3), .val (.int p4), .val (.int p5), .val (.ref b186), .val (.ref b209), .val (.int (0 : Int32)), .val (.int p4), .val (.int ((p5 >>> ((2 : Int32) &&& 31)) &&& (3 : Int32))), .val (.ref b209), .val (.ref b234), .unset, .unset, .unset] [(.ref b245)]))
      refine own_st (fun _ k => XS.astore X250.here hx rfl (hb hby at_100) rfl rfl (l' := #[.val (.long p1), .second, .val (.long p2), .second, .val (.int p3), .val (.int p4), .val (.int p5), .val (.ref b186), .val (.ref b209), .val (.int (0 : Int32)), .val (.int p4), .val (.int ((p5 >>> ((2 : Int32) &&& 31)) &&& (3 : Int32))), .val (.ref b209), .val (.ref b234), .val (.ref b245), .unset, .unset]) rfl k) ?_
      show own_Go p e below s _ _ _ (T250.setTop (mkF m 102 #[.val (.long p1), .second, .val (.long p2), .second, .val (.int p3), .val (.int p4), .val (.int p5), .val (.ref b186), .val (.ref b209), .val (.int (0 : Int32)), .val (.int p4), .val (.int ((p5 >>> ((2 : Int32) &&& 31)) &&& (3 : Int32))), .val (.ref b209), .val (.ref b234), .val (.ref b245), .unset, .unset] []))
      refine own_st (fun _ k => XS.aload X250.here hx rfl (hb hby at_102) rfl rfl k) ?_
      show own_Go p e below s _ _ _ (T250.setTop (mkF m 104 #[.val (.long p1), .second, .val (.long p2), .second, .val (.int p3), .val (.int p4), .val (.int p5), .val (.ref b186), .val (.ref b209), .val (.int (0 : Int32)), .val (.int p4), .val (.int ((p5 >>> ((2 : Int32) &&& 31)) &&& (3 : Int32))), .val (.ref b209), .val (.ref b234), .val (.ref b245), .unset, .unset] [(.ref b234)]))
      refine own_st (fun _ k => XS.aload X250.here hx rfl (hb hby at_104) rfl rfl k) ?_
      show own_Go p e below s _ _ _ (T250.setTop (mkF m 106 #[.val (.long p1), .second, .val (.long p2), .second, .val (.int p3), .val (.int p4), .val (.int p5), .val (.ref b186), .val (.ref b209), .val (.int (0 : Int32)), .val (.int p4), .val (.int ((p5 >>> ((2 : Int32) &&& 31)) &&& (3 : Int32))), .val (.ref b209), .val (.ref b234), .val (.ref b245), .unset, .unset] [(.ref b234), (.ref b234)]))
      have F257 : Exa Z T250.heap b234 "com/example/treeloom/treeloom/xdm/Node" := ((q240.ext E245).keep K250)
      have ne258 : b234 ≠ b245 := Nat.ne_of_lt (Nat.lt_of_lt_of_le (Nat.lt_of_lt_of_le A234.lt K239.1) (Nat.le_of_eq g245.symm))
      have F259 : Fld Z T250.heap b234 "com/example/treeloom/treeloom/xdm/Node" "tree" "Lcom/example/treeloom/treeloom/xdm/Tree;" (.ref b186) := ((q241.ext E245).keep K250 (ninS ne258 nin0))
      have F260 : Fld Z T250.heap b234 "com/example/treeloom/treeloom/xdm/Node" "index" "I" (.int p3) := ((q242.ext E245).keep K250 (ninS ne258 nin0))
      obtain ⟨cq256, kq256, q256a, q256b, q256c⟩ := isOf hZ rfl F257
      obtain ⟨_, _, ⟨T256, L256, k256, n256⟩, -, X256, ⟨Lc256, hQ256, l256, y256, z256⟩, st256⟩ := X250.virtualBack hx (y := (⟨"com/example/treeloom/treeloom/xdm/Node", "equals", "(Ljava/lang/Object;)Z"⟩ : MethodName)) (z := (⟨"com/example/treeloom/treeloom/xdm/Node", "equals", "(Ljava/lang/Object;)Z"⟩ : MethodName)) hown (mvT hZ (hw _ (List.mem_of_getElem? (i := 48) rfl))) (mvT hZ (hw _ (List.mem_of_getElem? (i := 49) rfl))) (notFace_of_selects (args := #[]) (mvT hZ (hw _ (List.mem_of_getElem? (i := 51) rfl)))) (mvT hZ (hw _ (List.mem_of_getElem? (i := 51) rfl))) (mvT hZ (hw _ (List.mem_of_getElem? (i := 50) rfl))) (by decide) (backOf (W := 0) (own_rm_eqO l Z a0 hw [] b234 b234 b186 b186 p3 p3 T250.heap n0 Zs255 F257 F259 F260 F259 F260) hZ (hw _ (List.mem_of_getElem? (i := 52) rfl)) (hw _ (List.mem_of_getElem? (i := 35) rfl)) (by decide) (by decide)) q256a q256c (g := (mkF m 106 #[.val (.long p1), .second, .val (.long p2), .second, .val (.int p3), .val (.int p4), .val (.int p5), .val (.ref b186), .val (.ref b209), .val (.int (0 : Int32)), .val (.int p4), .val (.int ((p5 >>> ((2 : Int32) &&& 31)) &&& (3 : Int32))), .val (.ref b209), .val (.ref b234), .val (.ref b245), .unset, .unset] [(.ref b234), (.ref b234)])) rfl (by rw [hml]; rfl) (Steps.refl _) (argsL := [(.ref b234)]) (rest := []) (lenOf own_pd4 rfl) rfl (by show 2 * 0 + _ ≤ _; exact Nat.le_of_eq rfl) (hb hby at_106) (fun _ _ => ⟨rfl, rfl, (by decide : 18 + 0 ≤ _), (by decide : 220 + 0 ≤ _)⟩)
      dsimp only [Pt.U, Pt.locs, Pt.cells, Pt.slots] at X256 l256 y256 z256 st256 hQ256
      subst l256 y256 z256
      obtain ⟨N256q, rfl, eh256⟩ := hQ256
      have N261 := Fr.app N254 N256q
      refine own_tr st256 ?_
      show own_Go p e below s _ _ _ (T256.setTop (mkF m 109 #[.val (.long p1), .second, .val (.long p2), .second, .val (.int p3), .val (.int p4), .val (.int p5), .val (.ref b186), .val (.ref b209), .val (.int (0 : Int32)), .val (.int p4), .val (.int ((p5 >>> ((2 : Int32) &&& 31)) &&& (3 : Int32))), .val (.ref b209), .val (.ref b234), .val (.ref b245), .unset, .unset] [(.int (if b186 = b186 then (if p3 = p3 then (1 : Int32) else 0) else 0))]))
      refine own_st (fun _ k => XS.istore X256.here hx rfl (hb hby at_109) rfl (l' := #[.val (.long p1), .second, .val (.long p2), .second, .val (.int p3), .val (.int p4), .val (.int p5), .val (.ref b186), .val (.ref b209), .val (.int (0 : Int32)), .val (.int p4), .val (.int ((p5 >>> ((2 : Int32) &&& 31)) &&& (3 : Int32))), .val (.ref b209), .val (.ref b234), .val (.ref b245), .val (.int (if b186 = b186 then (if p3 = p3 then (1 : Int32) else 0) else 0)), .unset]) rfl k) ?_
      show own_Go p e below s _ _ _ (T256.setTop (mkF m 111 #[.val (.long p1), .second, .val (.long p2), .second, .val (.int p3), .val (.int p4), .val (.int p5), .val (.ref b186), .val (.ref b209), .val (.int (0 : Int32)), .val (.int p4), .val (.int ((p5 >>> ((2 : Int32) &&& 31)) &&& (3 : Int32))), .val (.ref b209), .val (.ref b234), .val (.ref b245), .val (.int (if b186 = b186 then (if p3 = p3 then (1 : Int32) else 0) else 0)), .unset] []))
      refine own_st (fun _ k => XS.iload X256.here hx rfl (hb hby at_111) rfl k) ?_
      show own_Go p e below s _ _ _ (T256.setTop (mkF m 113 #[.val (.long p1), .second, .val (.long p2), .second, .val (.int p3), .val (.int p4), .val (.int p5), .val (.ref b186), .val (.ref b209), .val (.int (0 : Int32)), .val (.int p4), .val (.int ((p5 >>> ((2 : Int32) &&& 31)) &&& (3 : Int32))), .val (.ref b209), .val (.ref b234), .val (.ref b245), .val (.int (if b186 = b186 then (if p3 = p3 then (1 : Int32) else 0) else 0)), .unset] [(.int ((p5 >>> ((2 : Int32) &&& 31)) &&& (3 : Int32)))]))
      by_cases hc262 : ((p5 >>> ((2 : Int32) &&& 31)) &&& (3 : Int32)) = 0
      · refine own_st (fun _ k => XS.ifNo X256.here hx rfl (hb hby at_113) rfl (XT.i0_ne_f hc262) k) ?_
        show own_Go p e below s _ _ _ (T256.setTop (mkF m 116 #[.val (.long p1), .second, .val (.long p2), .second, .val (.int p3), .val (.int p4), .val (.int p5), .val (.ref b186), .val (.ref b209), .val (.int (0 : Int32)), .val (.int p4), .val (.int ((p5 >>> ((2 : Int32) &&& 31)) &&& (3 : Int32))), .val (.ref b209), .val (.ref b234), .val (.ref b245), .val (.int (if b186 = b186 then (if p3 = p3 then (1 : Int32) else 0) else 0)), .unset] []))
        refine own_st (fun _ k => XS.iload X256.here hx rfl (hb hby at_116) rfl k) ?_
        show own_Go p e below s _ _ _ (T256.setTop (mkF m 118 #[.val (.long p1), .second, .val (.long p2), .second, .val (.int p3), .val (.int p4), .val (.int p5), .val (.ref b186), .val (.ref b209), .val (.int (0 : Int32)), .val (.int p4), .val (.int ((p5 >>> ((2 : Int32) &&& 31)) &&& (3 : Int32))), .val (.ref b209), .val (.ref b234), .val (.ref b245), .val (.int (if b186 = b186 then (if p3 = p3 then (1 : Int32) else 0) else 0)), .unset] [(.int (0 : Int32))]))
        refine own_st (fun _ k => XS.ifYes X256.here hx rfl (pc0 := 118) (pc' := 132) rfl (hb hby at_118) rfl (XT.i0_eq_t (by decide)) (by decide) (by decide) k) ?_
        show own_Go p e below s _ _ _ (T256.setTop (mkF m 132 #[.val (.long p1), .second, .val (.long p2), .second, .val (.int p3), .val (.int p4), .val (.int p5), .val (.ref b186), .val (.ref b209), .val (.int (0 : Int32)), .val (.int p4), .val (.int ((p5 >>> ((2 : Int32) &&& 31)) &&& (3 : Int32))), .val (.ref b209), .val (.ref b234), .val (.ref b245), .val (.int (if b186 = b186 then (if p3 = p3 then (1 : Int32) else 0) else 0)), .unset] []))
        refine own_st (fun _ k => XT.iconstV X256.here hx rfl (0 : Int32) (hb hby at_132) (by decide) k) ?_
        show own_Go p e below s _ _ _ (T256.setTop (mkF m 133 #[.val (.long p1), .second, .val (.long p2), .second, .val (.int p3), .val (.int p4), .val (.int p5), .val (.ref b186), .val (.ref b209), .val (.int (0 : Int32)), .val (.int p4), .val (.int ((p5 >>> ((2 : Int32) &&& 31)) &&& (3 : Int32))), .val (.ref b209), .val (.ref b234), .val (.ref b245), .val (.int (if b186 = b186 then (if p3 = p3 then (1 : Int32) else 0) else 0)), .unset] [(.int (0 : Int32))]))
        refine own_st (fun _ k => XS.istore X256.here hx rfl (hb hby at_133) rfl (l' := #[.val (.long p1), .second, .val (.long p2), .second, .val (.int p3), .val (.int p4), .val (.int p5), .val (.ref b186), .val (.ref b209), .val (.int (0 : Int32)), .val (.int p4), .val (.int ((p5 >>> ((2 : Int32) &&& 31)) &&& (3 : Int32))), .val (.ref b209), .val (.ref b234), .val (.ref b245), .val (.int (if b186 = b186 then (if p3 = p3 then (1 : Int32) else 0) else 0)), .val (.int (0 : Int32))]) rfl k) ?_
        show own_Go p e below s _ _ _ (T256.setTop (mkF m 135 #[.val (.long p1), .second, .val (.long p2), .second, .val (.int p3), .val (.int p4), .val (.int p5), .val (.ref b186), .val (.ref b209), .val (.int (0 : Int32)), .val (.int p4), .val (.int ((p5 >>> ((2 : Int32) &&& 31)) &&& (3 : Int32))), .val (.ref b209), .val (.ref b234), .val (.ref b245), .val (.int (if b186 = b186 then (if p3 = p3 then (1 : Int32) else 0) else 0)), .val (.int (0 : Int32))] []))
        refine own_st (fun _ k => XS.iload X256.here hx rfl (hb hby at_135) rfl k) ?_
        show own_Go p e below s _ _ _ (T256.setTop (mkF m 137 #[.val (.long p1), .second, .val (.long p2), .second, .val (.int p3), .val (.int p4), .val (.int p5), .val (.ref b186), .val (.ref b209), .val (.int (0 : Int32)), .val (.int p4), .val (.int ((p5 >>> ((2 : Int32) &&& 31)) &&& (3 : Int32))), .val (.ref b209), .val (.ref b234), .val (.ref b245), .val (.int (if b186 = b186 then (if p3 = p3 then (1 : Int32) else 0) else 0)), .val (.int (0 : Int32))] [(.int (if b186 = b186 then (if p3 = p3 then (1 : Int32) else 0) else 0))]))
        refine own_st (fun _ k => XS.ifNo X256.here hx rfl (hb hby at_137) rfl (XT.i0_eq_f (by simp)) k) ?_
        show own_Go p e below s _ _ _ (T256.setTop (mkF m 140 #[.val (.long p1), .second, .val (.long p2), .second, .val (.int p3), .val (.int p4), .val (.int p5), .val (.ref b186), .val (.ref b209), .val (.int (0 : Int32)), .val (.int p4), .val (.int ((p5 >>> ((2 : Int32) &&& 31)) &&& (3 : Int32))), .val (.ref b209), .val (.ref b234), .val (.ref b245), .val (.int (if b186 = b186 then (if p3 = p3 then (1 : Int32) else 0) else 0)), .val (.int (0 : Int32))] []))
        refine own_st (fun _ k => XS.aload X256.here hx rfl (hb hby at_140) rfl rfl k) ?_
        show own_Go p e below s _ _ _ (T256.setTop (mkF m 142 #[.val (.long p1), .second, .val (.long p2), .second, .val (.int p3), .val (.int p4), .val (.int p5), .val (.ref b186), .val (.ref b209), .val (.int (0 : Int32)), .val (.int p4), .val (.int ((p5 >>> ((2 : Int32) &&& 31)) &&& (3 : Int32))), .val (.ref b209), .val (.ref b234), .val (.ref b245), .val (.int (if b186 = b186 then (if p3 = p3 then (1 : Int32) else 0) else 0)), .val (.int (0 : Int32))] [(.ref b234)]))
        refine own_st (fun _ k => XS.aload X256.here hx rfl (hb hby at_142) rfl rfl k) ?_
        show own_Go p e below s _ _ _ (T256.setTop (mkF m 144 #[.val (.long p1), .second, .val (.long p2), .second, .val (.int p3), .val (.int p4), .val (.int p5), .val (.ref b186), .val (.ref b209), .val (.int (0 : Int32)), .val (.int p4), .val (.int ((p5 >>> ((2 : Int32) &&& 31)) &&& (3 : Int32))), .val (.ref b209), .val (.ref b234), .val (.ref b245), .val (.int (if b186 = b186 then (if p3 = p3 then (1 : Int32) else 0) else 0)), .val (.int (0 : Int32))] [(.ref b245), (.ref b234)]))
        obtain ⟨cq263, kq263, q263a, q263b, q263c⟩ := isOf hZ eh256 F257
        obtain ⟨_, _, ⟨T263, L263, k263, n263⟩, -, X263, ⟨Lc263, hQ263, l263, y263, z263⟩, st263⟩ := X256.virtualBack hx (y := (⟨"com/example/treeloom/treeloom/xdm/Node", "equals", "(Ljava/lang/Object;)Z"⟩ : MethodName)) (z := (⟨"com/example/treeloom/treeloom/xdm/Node", "equals", "(Ljava/lang/Object;)Z"⟩ : MethodName)) hown (mvT hZ (hw _ (List.mem_of_getElem? (i := 48) rfl))) (mvT hZ (hw _ (List.mem_of_getElem? (i := 49) rfl))) (notFace_of_selects (args := #[]) (mvT hZ (hw _ (List.mem_of_getElem? (i := 51) rfl)))) (mvT hZ (hw _ (List.mem_of_getElem? (i := 51) rfl))) (mvT hZ (hw _ (List.mem_of_getElem? (i := 50) rfl))) (by decide) (backOf (W := 0) (own_rm_eqO l Z a0 hw [] b234 b245 b186 b209 p3 p4 T250.heap n0 Zs255 q251 F259 F260 q252 q253) hZ (hw _ (List.mem_of_getElem? (i := 52) rfl)) (hw _ (List.mem_of_getElem? (i := 35) rfl)) (by decide) (by decide)) q263a q263c (g := (mkF m 144 #[.val (.long p1), .second, .val (.long p2), .second, .val (.int p3), .val (.int p4), .val (.int p5), .val (.ref b186), .val (.ref b209), .val (.int (0 : Int32)), .val (.int p4), .val (.int ((p5 >>> ((2 : Int32) &&& 31)) &&& (3 : Int32))), .val (.ref b209), .val (.ref b234), .val (.ref b245), .val (.int (if b186 = b186 then (if p3 = p3 then (1 : Int32) else 0) else 0)), .val (.int (0 : Int32))] [(.ref b245), (.ref b234)])) rfl (by rw [hml]; rfl) (Steps.refl _) (argsL := [(.ref b245)]) (rest := []) (lenOf own_pd4 rfl) rfl (by show 2 * 0 + _ ≤ _; exact Nat.le_of_eq rfl) (hb hby at_144) (fun _ _ => ⟨rfl, eh256, (by decide : 18 + 0 ≤ _), (by decide : 220 + 0 ≤ _)⟩)
        dsimp only [Pt.U, Pt.locs, Pt.cells, Pt.slots] at X263 l263 y263 z263 st263 hQ263
        subst l263 y263 z263
        obtain ⟨N263q, rfl, eh263⟩ := hQ263
        have N264 := Fr.app N261 N263q
        refine own_tr st263 ?_
        show own_Go p e below s _ _ _ (T263.setTop (mkF m 147 #[.val (.long p1), .second, .val (.long p2), .second, .val (.int p3), .val (.int p4), .val (.int p5), .val (.ref b186), .val (.ref b209), .val (.int (0 : Int32)), .val (.int p4), .val (.int ((p5 >>> ((2 : Int32) &&& 31)) &&& (3 : Int32))), .val (.ref b209), .val (.ref b234), .val (.ref b245), .val (.int (if b186 = b186 then (if p3 = p3 then (1 : Int32) else 0) else 0)), .val (.int (0 : Int32))] [(.int (if b186 = b209 then (if p3 = p4 then (1 : Int32) else 0) else 0))]))
        refine own_st (fun _ k => XS.iload X263.here hx rfl (hb hby at_147) rfl k) ?_
        show own_Go p e below s _ _ _ (T263.setTop (mkF m 149 #[.val (.long p1), .second, .val (.long p2), .second, .val (.int p3), .val (.int p4), .val (.int p5), .val (.ref b186), .val (.ref b209), .val (.int (0 : Int32)), .val (.int p4), .val (.int ((p5 >>> ((2 : Int32) &&& 31)) &&& (3 : Int32))), .val (.ref b209), .val (.ref b234), .val (.ref b245), .val (.int (if b186 = b186 then (if p3 = p3 then (1 : Int32) else 0) else 0)), .val (.int (0 : Int32))] [(.int (0 : Int32)), (.int (if b186 = b209 then (if p3 = p4 then (1 : Int32) else 0) else 0))]))
        have ne265 : b186 ≠ b209 := Nat.ne_of_lt (Nat.lt_of_lt_of_le (Nat.lt_of_lt_of_le A186.lt K198.1) (Nat.le_of_eq g209.symm))
        refine own_st (fun _ k => XS.icmpNo X263.here hx rfl (hb hby at_149) rfl (XT.ii_ne_f (by simp [ne265, ne265.symm])) k) ?_
        show own_Go p e below s _ _ _ (T263.setTop (mkF m 152 #[.val (.long p1), .second, .val (.long p2), .second, .val (.int p3), .val (.int p4), .val (.int p5), .val (.ref b186), .val (.ref b209), .val (.int (0 : Int32)), .val (.int p4), .val (.int ((p5 >>> ((2 : Int32) &&& 31)) &&& (3 : Int32))), .val (.ref b209), .val (.ref b234), .val (.ref b245), .val (.int (if b186 = b186 then (if p3 = p3 then (1 : Int32) else 0) else 0)), .val (.int (0 : Int32))] []))
        refine own_st (fun _ k => XS.aload X263.here hx rfl (hb hby at_152) rfl rfl k) ?_
        show own_Go p e below s _ _ _ (T263.setTop (mkF m 154 #[.val (.long p1), .second, .val (.long p2), .second, .val (.int p3), .val (.int p4), .val (.int p5), .val (.ref b186), .val (.ref b209), .val (.int (0 : Int32)), .val (.int p4), .val (.int ((p5 >>> ((2 : Int32) &&& 31)) &&& (3 : Int32))), .val (.ref b209), .val (.ref b234), .val (.ref b245), .val (.int (if b186 = b186 then (if p3 = p3 then (1 : Int32) else 0) else 0)), .val (.int (0 : Int32))] [(.ref b245)]))
        refine own_st (fun _ k => XS.aload X263.here hx rfl (hb hby at_154) rfl rfl k) ?_
        show own_Go p e below s _ _ _ (T263.setTop (mkF m 156 #[.val (.long p1), .second, .val (.long p2), .second, .val (.int p3), .val (.int p4), .val (.int p5), .val (.ref b186), .val (.ref b209), .val (.int (0 : Int32)), .val (.int p4), .val (.int ((p5 >>> ((2 : Int32) &&& 31)) &&& (3 : Int32))), .val (.ref b209), .val (.ref b234), .val (.ref b245), .val (.int (if b186 = b186 then (if p3 = p3 then (1 : Int32) else 0) else 0)), .val (.int (0 : Int32))] [(.ref b234), (.ref b245)]))
        obtain ⟨cq266, kq266, q266a, q266b, q266c⟩ := isOf hZ eh263 q251
        obtain ⟨_, _, ⟨T266, L266, k266, n266⟩, -, X266, ⟨Lc266, hQ266, l266, y266, z266⟩, st266⟩ := X263.virtualBack hx (y := (⟨"com/example/treeloom/treeloom/xdm/Node", "equals", "(Ljava/lang/Object;)Z"⟩ : MethodName)) (z := (⟨"com/example/treeloom/treeloom/xdm/Node", "equals", "(Ljava/lang/Object;)Z"⟩ : MethodName)) hown (mvT hZ (hw _ (List.mem_of_getElem? (i := 48) rfl))) (mvT hZ (hw _ (List.mem_of_getElem? (i := 49) rfl))) (notFace_of_selects (args := #[]) (mvT hZ (hw _ (List.mem_of_getElem? (i := 51) rfl)))) (mvT hZ (hw _ (List.mem_of_getElem? (i := 51) rfl))) (mvT hZ (hw _ (List.mem_of_getElem? (i := 50) rfl))) (by decide) (backOf (W := 0) (own_rm_eqO l Z a0 hw [] b245 b234 b209 b186 p4 p3 T250.heap n0 Zs255 F257 q252 q253 F259 F260) hZ (hw _ (List.mem_of_getElem? (i := 52) rfl)) (hw _ (List.mem_of_getElem? (i := 35) rfl)) (by decide) (by decide)) q266a q266c (g := (mkF m 156 #[.val (.long p1), .second, .val (.long p2), .second, .val (.int p3), .val (.int p4), .val (.int p5), .val (.ref b186), .val (.ref b209), .val (.int (0 : Int32)), .val (.int p4), .val (.int ((p5 >>> ((2 : Int32) &&& 31)) &&& (3 : Int32))), .val (.ref b209), .val (.ref b234), .val (.ref b245), .val (.int (if b186 = b186 then (if p3 = p3 then (1 : Int32) else 0) else 0)), .val (.int (0 : Int32))] [(.ref b234), (.ref b245)])) rfl (by rw [hml]; rfl) (Steps.refl _) (argsL := [(.ref b234)]) (rest := []) (lenOf own_pd4 rfl) rfl (by show 2 * 0 + _ ≤ _; exact Nat.le_of_eq rfl) (hb hby at_156) (fun _ _ => ⟨rfl, eh263, (by decide : 18 + 0 ≤ _), (by decide : 220 + 0 ≤ _)⟩)
        dsimp only [Pt.U, Pt.locs, Pt.cells, Pt.slots] at X266 l266 y266 z266 st266 hQ266
        subst l266 y266 z266
        obtain ⟨N266q, rfl, eh266⟩ := hQ266
        have N267 := Fr.app N264 N266q
        refine own_tr st266 ?_
        show own_Go p e below s _ _ _ (T266.setTop (mkF m 159 #[.val (.long p1), .second, .val (.long p2), .second, .val (.int p3), .val (.int p4), .val (.int p5), .val (.ref b186), .val (.ref b209), .val (.int (0 : Int32)), .val (.int p4), .val (.int ((p5 >>> ((2 : Int32) &&& 31)) &&& (3 : Int32))), .val (.ref b209), .val (.ref b234), .val (.ref b245), .val (.int (if b186 = b186 then (if p3 = p3 then (1 : Int32) else 0) else 0)), .val (.int (0 : Int32))] [(.int (if b209 = b186 then (if p4 = p3 then (1 : Int32) else 0) else 0))]))
        refine own_st (fun _ k => XS.iload X266.here hx rfl (hb hby at_159) rfl k) ?_
        show own_Go p e below s _ _ _ (T266.setTop (mkF m 161 #[.val (.long p1), .second, .val (.long p2), .second, .val (.int p3), .val (.int p4), .val (.int p5), .val (.ref b186), .val (.ref b209), .val (.int (0 : Int32)), .val (.int p4), .val (.int ((p5 >>> ((2 : Int32) &&& 31)) &&& (3 : Int32))), .val (.ref b209), .val (.ref b234), .val (.ref b245), .val (.int (if b186 = b186 then (if p3 = p3 then (1 : Int32) else 0) else 0)), .val (.int (0 : Int32))] [(.int (0 : Int32)), (.int (if b209 = b186 then (if p4 = p3 then (1 : Int32) else 0) else 0))]))
        refine own_st (fun _ k => XS.icmpNo X266.here hx rfl (hb hby at_161) rfl (XT.ii_ne_f (by simp [ne265, ne265.symm])) k) ?_
        show own_Go p e below s _ _ _ (T266.setTop (mkF m 164 #[.val (.long p1), .second, .val (.long p2), .second, .val (.int p3), .val (.int p4), .val (.int p5), .val (.ref b186), .val (.ref b209), .val (.int (0 : Int32)), .val (.int p4), .val (.int ((p5 >>> ((2 : Int32) &&& 31)) &&& (3 : Int32))), .val (.ref b209), .val (.ref b234), .val (.ref b245), .val (.int (if b186 = b186 then (if p3 = p3 then (1 : Int32) else 0) else 0)), .val (.int (0 : Int32))] []))
        refine own_st (fun _ k => XT.iconstV X266.here hx rfl (1 : Int32) (hb hby at_164) (by decide) k) ?_
        show own_Go p e below s _ _ _ (T266.setTop (mkF m 165 #[.val (.long p1), .second, .val (.long p2), .second, .val (.int p3), .val (.int p4), .val (.int p5), .val (.ref b186), .val (.ref b209), .val (.int (0 : Int32)), .val (.int p4), .val (.int ((p5 >>> ((2 : Int32) &&& 31)) &&& (3 : Int32))), .val (.ref b209), .val (.ref b234), .val (.ref b245), .val (.int (if b186 = b186 then (if p3 = p3 then (1 : Int32) else 0) else 0)), .val (.int (0 : Int32))] [(.int (1 : Int32))]))
        refine own_st (fun _ k => XS.goto X266.here hx rfl (pc0 := 165) (pc' := 169) rfl (hb hby at_165) (by decide) (by decide) k) ?_
        show own_Go p e below s _ _ _ (T266.setTop (mkF m 169 #[.val (.long p1), .second, .val (.long p2), .second, .val (.int p3), .val (.int p4), .val (.int p5), .val (.ref b186), .val (.ref b209), .val (.int (0 : Int32)), .val (.int p4), .val (.int ((p5 >>> ((2 : Int32) &&& 31)) &&& (3 : Int32))), .val (.ref b209), .val (.ref b234), .val (.ref b245), .val (.int (if b186 = b186 then (if p3 = p3 then (1 : Int32) else 0) else 0)), .val (.int (0 : Int32))] [(.int (1 : Int32))]))
        refine own_st (fun _ k => XS.istore X266.here hx rfl (hb hby at_169) rfl (l' := #[.val (.long p1), .second, .val (.long p2), .second, .val (.int p3), .val (.int p4), .val (.int p5), .val (.ref b186), .val (.ref b209), .val (.int (0 : Int32)), .val (.int p4), .val (.int ((p5 >>> ((2 : Int32) &&& 31)) &&& (3 : Int32))), .val (.ref b209), .val (.ref b234), .val (.ref b245), .val (.int (1 : Int32)), .val (.int (0 : Int32))]) rfl k) ?_
        show own_Go p e below s _ _ _ (T266.setTop (mkF m 171 #[.val (.long p1), .second, .val (.long p2), .second, .val (.int p3), .val (.int p4), .val (.int p5), .val (.ref b186), .val (.ref b209), .val (.int (0 : Int32)), .val (.int p4), .val (.int ((p5 >>> ((2 : Int32) &&& 31)) &&& (3 : Int32))), .val (.ref b209), .val (.ref b234), .val (.ref b245), .val (.int (1 : Int32)), .val (.int (0 : Int32))] []))
        refine own_st (fun _ k => XS.goto X266.here hx rfl (pc0 := 171) (pc' := 282) rfl (hb hby at_171) (by decide) (by decide) k) ?_
        show own_Go p e below s _ _ _ (T266.setTop (mkF m 282 #[.val (.long p1), .second, .val (.long p2), .second, .val (.int p3), .val (.int p4), .val (.int p5), .val (.ref b186), .val (.ref b209), .val (.int (0 : Int32)), .val (.int p4), .val (.int ((p5 >>> ((2 : Int32) &&& 31)) &&& (3 : Int32))), .val (.ref b209), .val (.ref b234), .val (.ref b245), .val (.int (1 : Int32)), .val (.int (0 : Int32))] []))
        refine own_st (fun _ k => XS.iload X266.here hx rfl (hb hby at_282) rfl k) ?_
        show own_Go p e below s _ _ _ (T266.setTop (mkF m 284 #[.val (.long p1), .second, .val (.long p2), .second, .val (.int p3), .val (.int p4), .val (.int p5), .val (.ref b186), .val (.ref b209), .val (.int (0 : Int32)), .val (.int p4), .val (.int ((p5 >>> ((2 : Int32) &&& 31)) &&& (3 : Int32))), .val (.ref b209), .val (.ref b234), .val (.ref b245), .val (.int (1 : Int32)), .val (.int (0 : Int32))] [(.int (1 : Int32))]))
        refine own_retN X266 hx hlk Bd.returns (t := .boolean) (z' := (1 : Int32)) (by simp) (by decide) (hb hby at_284) (by decide) (by decide) ?_
        rw [eh266]
        exact ⟨N267, rfl⟩
      · refine own_st (fun _ k => XS.ifYes X256.here hx rfl (pc0 := 113) (pc' := 174) rfl (hb hby at_113) rfl (XT.i0_ne_t hc262) (by decide) (by decide) k) ?_
        show own_Go p e below s _ _ _ (T256.setTop (mkF m 174 #[.val (.long p1), .second, .val (.long p2), .second, .val (.int p3), .val (.int p4), .val (.int p5), .val (.ref b186), .val (.ref b209), .val (.int (0 : Int32)), .val (.int p4), .val (.int ((p5 >>> ((2 : Int32) &&& 31)) &&& (3 : Int32))), .val (.ref b209), .val (.ref b234), .val (.ref b245), .val (.int (if b186 = b186 then (if p3 = p3 then (1 : Int32) else 0) else 0)), .unset] []))
        refine own_st (fun _ k => XS.iload X256.here hx rfl (hb hby at_174) rfl k) ?_
        show own_Go p e below s _ _ _ (T256.setTop (mkF m 176 #[.val (.long p1), .second, .val (.long p2), .second, .val (.int p3), .val (.int p4), .val (.int p5), .val (.ref b186), .val (.ref b209), .val (.int (0 : Int32)), .val (.int p4), .val (.int ((p5 >>> ((2 : Int32) &&& 31)) &&& (3 : Int32))), .val (.ref b209), .val (.ref b234), .val (.ref b245), .val (.int (if b186 = b186 then (if p3 = p3 then (1 : Int32) else 0) else 0)), .unset] [(.int ((p5 >>> ((2 : Int32) &&& 31)) &&& (3 : Int32)))]))
        refine own_st (fun _ k => XT.iconstV X256.here hx rfl (1 : Int32) (hb hby at_176) (by decide) k) ?_
        show own_Go p e below s _ _ _ (T256.setTop (mkF m 177 #[.val (.long p1), .second, .val (.long p2), .second, .val (.int p3), .val (.int p4), .val (.int p5), .val (.ref b186), .val (.ref b209), .val (.int (0 : Int32)), .val (.int p4), .val (.int ((p5 >>> ((2 : Int32) &&& 31)) &&& (3 : Int32))), .val (.ref b209), .val (.ref b234), .val (.ref b245), .val (.int (if b186 = b186 then (if p3 = p3 then (1 : Int32) else 0) else 0)), .unset] [(.int (1 : Int32)), (.int ((p5 >>> ((2 : Int32) &&& 31)) &&& (3 : Int32)))]))
        by_cases hc268 : ((p5 >>> ((2 : Int32) &&& 31)) &&& (3 : Int32)) = (1 : Int32)
        · refine own_st (fun _ k => XS.icmpNo X256.here hx rfl (hb hby at_177) rfl (XT.ii_ne_f hc268) k) ?_
          show own_Go p e below s _ _ _ (T256.setTop (mkF m 180 #[.val (.long p1), .second, .val (.long p2), .second, .val (.int p3), .val (.int p4), .val (.int p5), .val (.ref b186), .val (.ref b209), .val (.int (0 : Int32)), .val (.int p4), .val (.int ((p5 >>> ((2 : Int32) &&& 31)) &&& (3 : Int32))), .val (.ref b209), .val (.ref b234), .val (.ref b245), .val (.int (if b186 = b186 then (if p3 = p3 then (1 : Int32) else 0) else 0)), .unset] []))
          refine own_st (fun _ k => XS.iload X256.here hx rfl (hb hby at_180) rfl k) ?_
          show own_Go p e below s _ _ _ (T256.setTop (mkF m 182 #[.val (.long p1), .second, .val (.long p2), .second, .val (.int p3), .val (.int p4), .val (.int p5), .val (.ref b186), .val (.ref b209), .val (.int (0 : Int32)), .val (.int p4), .val (.int ((p5 >>> ((2 : Int32) &&& 31)) &&& (3 : Int32))), .val (.ref b209), .val (.ref b234), .val (.ref b245), .val (.int (if b186 = b186 then (if p3 = p3 then (1 : Int32) else 0) else 0)), .unset] [(.int (if b186 = b186 then (if p3 = p3 then (1 : Int32) else 0) else 0))]))
          refine own_st (fun _ k => XS.ifNo X256.here hx rfl (hb hby at_182) rfl (XT.i0_eq_f (by simp)) k) ?_
          show own_Go p e below s _ _ _ (T256.setTop (mkF m 185 #[.val (.long p1), .second, .val (.long p2), .second, .val (.int p3), .val (.int p4), .val (.int p5), .val (.ref b186), .val (.ref b209), .val (.int (0 : Int32)), .val (.int p4), .val (.int ((p5 >>> ((2 : Int32) &&& 31)) &&& (3 : Int32))), .val (.ref b209), .val (.ref b234), .val (.ref b245), .val (.int (if b186 = b186 then (if p3 = p3 then (1 : Int32) else 0) else 0)), .unset] []))
          refine own_st (fun _ k => XS.aload X256.here hx rfl (hb hby at_185) rfl rfl k) ?_
          show own_Go p e below s _ _ _ (T256.setTop (mkF m 187 #[.val (.long p1), .second, .val (.long p2), .second, .val (.int p3), .val (.int p4), .val (.int p5), .val (.ref b186), .val (.ref b209), .val (.int (0 : Int32)), .val (.int p4), .val (.int ((p5 >>> ((2 : Int32) &&& 31)) &&& (3 : Int32))), .val (.ref b209), .val (.ref b234), .val (.ref b245), .val (.int (if b186 = b186 then (if p3 = p3 then (1 : Int32) else 0) else 0)), .unset] [(.ref b234)]))
          refine own_st (fun _ k => XS.aconstNull X256.here hx rfl (hb hby at_187) k) ?_
          show own_Go p e below s _ _ _ (T256.setTop (mkF m 188 #[.val (.long p1), .second, .val (.long p2), .second, .val (.int p3), .val (.int p4), .val (.int p5), .val (.ref b186), .val (.ref b209), .val (.int (0 : Int32)), .val (.int p4), .val (.int ((p5 >>> ((2 : Int32) &&& 31)) &&& (3 : Int32))), .val (.ref b209), .val (.ref b234), .val (.ref b245), .val (.int (if b186 = b186 then (if p3 = p3 then (1 : Int32) else 0) else 0)), .unset] [.null, (.ref b234)]))
          obtain ⟨cq269, kq269, q269a, q269b, q269c⟩ := isOf hZ eh256 F257
          obtain ⟨_, _, ⟨T269, L269, k269, n269⟩, -, X269, ⟨Lc269, hQ269, l269, y269, z269⟩, st269⟩ := X256.virtualBack hx (y := (⟨"com/example/treeloom/treeloom/xdm/Node", "equals", "(Ljava/lang/Object;)Z"⟩ : MethodName)) (z := (⟨"com/example/treeloom/treeloom/xdm/Node", "equals", "(Ljava/lang/Object;)Z"⟩ : MethodName)) hown (mvT hZ (hw _ (List.mem_of_getElem? (i := 48) rfl))) (mvT hZ (hw _ (List.mem_of_getElem? (i := 49) rfl))) (notFace_of_selects (args := #[]) (mvT hZ (hw _ (List.mem_of_getElem? (i := 51) rfl)))) (mvT hZ (hw _ (List.mem_of_getElem? (i := 51) rfl))) (mvT hZ (hw _ (List.mem_of_getElem? (i := 50) rfl))) (by decide) (backOf (W := 0) (own_rm_eqN l Z a0 hw [] b234 T250.heap n0 Zs255 ) hZ (hw _ (List.mem_of_getElem? (i := 52) rfl)) (hw _ (List.mem_of_getElem? (i := 35) rfl)) (by decide) (by decide)) q269a q269c (g := (mkF m 188 #[.val (.long p1), .second, .val (.long p2), .second, .val (.int p3), .val (.int p4), .val (.int p5), .val (.ref b186), .val (.ref b209), .val (.int (0 : Int32)), .val (.int p4), .val (.int ((p5 >>> ((2 : Int32) &&& 31)) &&& (3 : Int32))), .val (.ref b209), .val (.ref b234), .val (.ref b245), .val (.int (if b186 = b186 then (if p3 = p3 then (1 : Int32) else 0) else 0)), .unset] [.null, (.ref b234)])) rfl (by rw [hml]; rfl) (Steps.refl _) (argsL := [.null]) (rest := []) (lenOf own_pd4 rfl) rfl (by show 2 * 0 + _ ≤ _; exact Nat.le_of_eq rfl) (hb hby at_188) (fun _ _ => ⟨rfl, eh256, (by decide : 18 + 0 ≤ _), (by decide : 220 + 0 ≤ _)⟩)
          dsimp only [Pt.U, Pt.locs, Pt.cells, Pt.slots] at X269 l269 y269 z269 st269 hQ269
          subst l269 y269 z269
          obtain ⟨N269q, rfl, eh269⟩ := hQ269
          have N270 := Fr.app N261 N269q
          refine own_tr st269 ?_
          show own_Go p e below s _ _ _ (T269.setTop (mkF m 191 #[.val (.long p1), .second, .val (.long p2), .second, .val (.int p3), .val (.int p4), .val (.int p5), .val (.ref b186), .val (.ref b209), .val (.int (0 : Int32)), .val (.int p4), .val (.int ((p5 >>> ((2 : Int32) &&& 31)) &&& (3 : Int32))), .val (.ref b209), .val (.ref b234), .val (.ref b245), .val (.int (if b186 = b186 then (if p3 = p3 then (1 : Int32) else 0) else 0)), .unset] [(.int (0 : Int32))]))
          refine own_st (fun _ k => XS.ifNo X269.here hx rfl (hb hby at_191) rfl (XT.i0_ne_f (by decide)) k) ?_
          show own_Go p e below s _ _ _ (T269.setTop (mkF m 194 #[.val (.long p1), .second, .val (.long p2), .second, .val (.int p3), .val (.int p4), .val (.int p5), .val (.ref b186), .val (.ref b209), .val (.int (0 : Int32)), .val (.int p4), .val (.int ((p5 >>> ((2 : Int32) &&& 31)) &&& (3 : Int32))), .val (.ref b209), .val (.ref b234), .val (.ref b245), .val (.int (if b186 = b186 then (if p3 = p3 then (1 : Int32) else 0) else 0)), .unset] []))
          refine own_st (fun _ k => XT.iconstV X269.here hx rfl (1 : Int32) (hb hby at_194) (by decide) k) ?_
          show own_Go p e below s _ _ _ (T269.setTop (mkF m 195 #[.val (.long p1), .second, .val (.long p2), .second, .val (.int p3), .val (.int p4), .val (.int p5), .val (.ref b186), .val (.ref b209), .val (.int (0 : Int32)), .val (.int p4), .val (.int ((p5 >>> ((2 : Int32) &&& 31)) &&& (3 : Int32))), .val (.ref b209), .val (.ref b234), .val (.ref b245), .val (.int (if b186 = b186 then (if p3 = p3 then (1 : Int32) else 0) else 0)), .unset] [(.int (1 : Int32))]))
          refine own_st (fun _ k => XS.goto X269.here hx rfl (pc0 := 195) (pc' := 199) rfl (hb hby at_195) (by decide) (by decide) k) ?_
          show own_Go p e below s _ _ _ (T269.setTop (mkF m 199 #[.val (.long p1), .second, .val (.long p2), .second, .val (.int p3), .val (.int p4), .val (.int p5), .val (.ref b186), .val (.ref b209), .val (.int (0 : Int32)), .val (.int p4), .val (.int ((p5 >>> ((2 : Int32) &&& 31)) &&& (3 : Int32))), .val (.ref b209), .val (.ref b234), .val (.ref b245), .val (.int (if b186 = b186 then (if p3 = p3 then (1 : Int32) else 0) else 0)), .unset] [(.int (1 : Int32))]))
          refine own_st (fun _ k => XS.istore X269.here hx rfl (hb hby at_199) rfl (l' := #[.val (.long p1), .second, .val (.long p2), .second, .val (.int p3), .val (.int p4), .val (.int p5), .val (.ref b186), .val (.ref b209), .val (.int (0 : Int32)), .val (.int p4), .val (.int ((p5 >>> ((2 : Int32) &&& 31)) &&& (3 : Int32))), .val (.ref b209), .val (.ref b234), .val (.ref b245), .val (.int (1 : Int32)), .unset]) rfl k) ?_
          show own_Go p e below s _ _ _ (T269.setTop (mkF m 201 #[.val (.long p1), .second, .val (.long p2), .second, .val (.int p3), .val (.int p4), .val (.int p5), .val (.ref b186), .val (.ref b209), .val (.int (0 : Int32)), .val (.int p4), .val (.int ((p5 >>> ((2 : Int32) &&& 31)) &&& (3 : Int32))), .val (.ref b209), .val (.ref b234), .val (.ref b245), .val (.int (1 : Int32)), .unset] []))
          refine own_st (fun _ k => XS.goto X269.here hx rfl (pc0 := 201) (pc' := 282) rfl (hb hby at_201) (by decide) (by decide) k) ?_
          show own_Go p e below s _ _ _ (T269.setTop (mkF m 282 #[.val (.long p1), .second, .val (.long p2), .second, .val (.int p3), .val (.int p4), .val (.int p5), .val (.ref b186), .val (.ref b209), .val (.int (0 : Int32)), .val (.int p4), .val (.int ((p5 >>> ((2 : Int32) &&& 31)) &&& (3 : Int32))), .val (.ref b209), .val (.ref b234), .val (.ref b245), .val (.int (1 : Int32)), .unset] []))
          refine own_st (fun _ k => XS.iload X269.here hx rfl (hb hby at_282) rfl k) ?_
          show own_Go p e below s _ _ _ (T269.setTop (mkF m 284 #[.val (.long p1), .second, .val (.long p2), .second, .val (.int p3), .val (.int p4), .val (.int p5), .val (.ref b186), .val (.ref b209), .val (.int (0 : Int32)), .val (.int p4), .val (.int ((p5 >>> ((2 : Int32) &&& 31)) &&& (3 : Int32))), .val (.ref b209), .val (.ref b234), .val (.ref b245), .val (.int (1 : Int32)), .unset] [(.int (1 : Int32))]))
          refine own_retN X269 hx hlk Bd.returns (t := .boolean) (z' := (1 : Int32)) (by simp) (by decide) (hb hby at_284) (by decide) (by decide) ?_
          rw [eh269]
          exact ⟨N270, rfl⟩
        · refine own_st (fun _ k => XS.icmpYes X256.here hx rfl (pc0 := 177) (pc' := 204) rfl (hb hby at_177) rfl (XT.ii_ne_t hc268) (by decide) (by decide) k) ?_
          show own_Go p e below s _ _ _ (T256.setTop (mkF m 204 #[.val (.long p1), .second, .val (.long p2), .second, .val (.int p3), .val (.int p4), .val (.int p5), .val (.ref b186), .val (.ref b209), .val (.int (0 : Int32)), .val (.int p4), .val (.int ((p5 >>> ((2 : Int32) &&& 31)) &&& (3 : Int32))), .val (.ref b209), .val (.ref b234), .val (.ref b245), .val (.int (if b186 = b186 then (if p3 = p3 then (1 : Int32) else 0) else 0)), .unset] []))
          refine own_st (fun _ k => XS.iload X256.here hx rfl (hb hby at_204) rfl k) ?_
          show own_Go p e below s _ _ _ (T256.setTop (mkF m 206 #[.val (.long p1), .second, .val (.long p2), .second, .val (.int p3), .val (.int p4), .val (.int p5), .val (.ref b186), .val (.ref b209), .val (.int (0 : Int32)), .val (.int p4), .val (.int ((p5 >>> ((2 : Int32) &&& 31)) &&& (3 : Int32))), .val (.ref b209), .val (.ref b234), .val (.ref b245), .val (.int (if b186 = b186 then (if p3 = p3 then (1 : Int32) else 0) else 0)), .unset] [(.int ((p5 >>> ((2 : Int32) &&& 31)) &&& (3 : Int32)))]))
          refine own_st (fun _ k => XT.iconstV X256.here hx rfl (2 : Int32) (hb hby at_206) (by decide) k) ?_
          show own_Go p e below s _ _ _ (T256.setTop (mkF m 207 #[.val (.long p1), .second, .val (.long p2), .second, .val (.int p3), .val (.int p4), .val (.int p5), .val (.ref b186), .val (.ref b209), .val (.int (0 : Int32)), .val (.int p4), .val (.int ((p5 >>> ((2 : Int32) &&& 31)) &&& (3 : Int32))), .val (.ref b209), .val (.ref b234), .val (.ref b245), .val (.int (if b186 = b186 then (if p3 = p3 then (1 : Int32) else 0) else 0)), .unset] [(.int (2 : Int32)), (.int ((p5 >>> ((2 : Int32) &&& 31)) &&& (3 : Int32)))]))
          by_cases hc271 : ((p5 >>> ((2 : Int32) &&& 31)) &&& (3 : Int32)) = (2 : Int32)
          · refine own_st (fun _ k => XS.icmpNo X256.here hx rfl (hb hby at_207) rfl (XT.ii_ne_f hc271) k) ?_
            show own_Go p e below s _ _ _ (T256.setTop (mkF m 210 #[.val (.long p1), .second, .val (.long p2), .second, .val (.int p3), .val (.int p4), .val (.int p5), .val (.ref b186), .val (.ref b209), .val (.int (0 : Int32)), .val (.int p4), .val (.int ((p5 >>> ((2 : Int32) &&& 31)) &&& (3 : Int32))), .val (.ref b209), .val (.ref b234), .val (.ref b245), .val (.int (if b186 = b186 then (if p3 = p3 then (1 : Int32) else 0) else 0)), .unset] []))
            refine own_st (fun _ k => XS.iload X256.here hx rfl (hb hby at_210) rfl k) ?_
            show own_Go p e below s _ _ _ (T256.setTop (mkF m 212 #[.val (.long p1), .second, .val (.long p2), .second, .val (.int p3), .val (.int p4), .val (.int p5), .val (.ref b186), .val (.ref b209), .val (.int (0 : Int32)), .val (.int p4), .val (.int ((p5 >>> ((2 : Int32) &&& 31)) &&& (3 : Int32))), .val (.ref b209), .val (.ref b234), .val (.ref b245), .val (.int (if b186 = b186 then (if p3 = p3 then (1 : Int32) else 0) else 0)), .unset] [(.int (if b186 = b186 then (if p3 = p3 then (1 : Int32) else 0) else 0))]))
            refine own_st (fun _ k => XS.ifNo X256.here hx rfl (hb hby at_212) rfl (XT.i0_eq_f (by simp)) k) ?_
            show own_Go p e below s _ _ _ (T256.setTop (mkF m 215 #[.val (.long p1), .second, .val (.long p2), .second, .val (.int p3), .val (.int p4), .val (.int p5), .val (.ref b186), .val (.ref b209), .val (.int (0 : Int32)), .val (.int p4), .val (.int ((p5 >>> ((2 : Int32) &&& 31)) &&& (3 : Int32))), .val (.ref b209), .val (.ref b234), .val (.ref b245), .val (.int (if b186 = b186 then (if p3 = p3 then (1 : Int32) else 0) else 0)), .unset] []))
            refine own_st (fun _ k => XS.aload X256.here hx rfl (hb hby at_215) rfl rfl k) ?_
            show own_Go p e below s _ _ _ (T256.setTop (mkF m 217 #[.val (.long p1), .second, .val (.long p2), .second, .val (.int p3), .val (.int p4), .val (.int p5), .val (.ref b186), .val (.ref b209), .val (.int (0 : Int32)), .val (.int p4), .val (.int ((p5 >>> ((2 : Int32) &&& 31)) &&& (3 : Int32))), .val (.ref b209), .val (.ref b234), .val (.ref b245), .val (.int (if b186 = b186 then (if p3 = p3 then (1 : Int32) else 0) else 0)), .unset] [(.ref b234)]))
            refine own_st (fun _ k => XS.iload X256.here hx rfl (hb hby at_217) rfl k) ?_
            show own_Go p e below s _ _ _ (T256.setTop (mkF m 219 #[.val (.long p1), .second, .val (.long p2), .second, .val (.int p3), .val (.int p4), .val (.int p5), .val (.ref b186), .val (.ref b209), .val (.int (0 : Int32)), .val (.int p4), .val (.int ((p5 >>> ((2 : Int32) &&& 31)) &&& (3 : Int32))), .val (.ref b209), .val (.ref b234), .val (.ref b245), .val (.int (if b186 = b186 then (if p3 = p3 then (1 : Int32) else 0) else 0)), .unset] [(.int p3), (.ref b234)]))
            have O273 : Old Z n0 T250.heap := ((((((((O0.ext E186).keep K198 (allS g188 all0)).ext E209).keep K221 (allS g211 all0)).ext E234).keep K239 (allS g236 all0)).ext E245).keep K250 (allS g247 all0))
            obtain ⟨_, _, ⟨T272, L272, k272, n272⟩, -, X272, ⟨Lc272, hQ272, l272, y272, z272⟩, st272⟩ := Jvm.LawKit.callS X256 hx (y := (⟨"java/lang/Integer", "valueOf", "(I)Ljava/lang/Integer;"⟩ : MethodName)) hown (mvT hZ (hw _ (List.mem_of_getElem? (i := 55) rfl))) (mvT hZ (hw _ (List.mem_of_getElem? (i := 56) rfl))) (mvT hZ (hw _ (List.mem_of_getElem? (i := 57) rfl))) (mvT hZ (hw _ (List.mem_of_getElem? (i := 58) rfl))) (by decide) (backOf (W := 1) (own_rm_valueOfI l Z a0 hw [] p3 a_cacheI T250.heap n0 Zs255 O273 S_cacheI BxI S_high) hZ (hw _ (List.mem_of_getElem? (i := 58) rfl)) (hw _ (List.mem_of_getElem? (i := 57) rfl)) (by decide) (by decide)) (g := (mkF m 219 #[.val (.long p1), .second, .val (.long p2), .second, .val (.int p3), .val (.int p4), .val (.int p5), .val (.ref b186), .val (.ref b209), .val (.int (0 : Int32)), .val (.int p4), .val (.int ((p5 >>> ((2 : Int32) &&& 31)) &&& (3 : Int32))), .val (.ref b209), .val (.ref b234), .val (.ref b245), .val (.int (if b186 = b186 then (if p3 = p3 then (1 : Int32) else 0) else 0)), .unset] [(.int p3), (.ref b234)])) rfl (by rw [hml]; rfl) (argsL := [(.int p3)]) (rest := [(.ref b234)]) (lenOf own_pd5 rfl) rfl (by show 2 * 0 + _ ≤ _; exact Nat.le_of_eq rfl) (hb hby at_219) (fun _ _ => ⟨rfl, eh256, (by decide : 18 + 1 ≤ _), (by decide : 220 + 1 ≤ _)⟩)
            dsimp only [Pt.U, Pt.locs, Pt.cells, Pt.slots] at X272 l272 y272 z272 st272 hQ272
            subst l272 y272 z272
            obtain ⟨x274, N272q, rfl, K272, q275, q276⟩ := hQ272
            have N277 := Fr.app N261 N272q
            refine own_st st272 ?_
            have Zs278 : n0 ≤ T272.heap.size := Nat.le_trans Zs255 K272.1
            show own_Go p e below s _ _ _ (T272.setTop (mkF m 222 #[.val (.long p1), .second, .val (.long p2), .second, .val (.int p3), .val (.int p4), .val (.int p5), .val (.ref b186), .val (.ref b209), .val (.int (0 : Int32)), .val (.int p4), .val (.int ((p5 >>> ((2 : Int32) &&& 31)) &&& (3 : Int32))), .val (.ref b209), .val (.ref b234), .val (.ref b245), .val (.int (if b186 = b186 then (if p3 = p3 then (1 : Int32) else 0) else 0)), .unset] [(.ref x274), (.ref b234)]))
            have F280 : Exa Z T272.heap b234 "com/example/treeloom/treeloom/xdm/Node" := (F257.keep K272)
            obtain ⟨cq279, kq279, q279a, q279b, q279c⟩ := isOf hZ rfl F280
            obtain ⟨_, _, ⟨T279, L279, k279, n279⟩, -, X279, ⟨Lc279, hQ279, l279, y279, z279⟩, st279⟩ := X272.virtualBack hx (y := (⟨"com/example/treeloom/treeloom/xdm/Node", "equals", "(Ljava/lang/Object;)Z"⟩ : MethodName)) (z := (⟨"com/example/treeloom/treeloom/xdm/Node", "equals", "(Ljava/lang/Object;)Z"⟩ : MethodName)) hown (mvT hZ (hw _ (List.mem_of_getElem? (i := 48) rfl))) (mvT hZ (hw _ (List.mem_of_getElem? (i := 49) rfl))) (notFace_of_selects (args := #[]) (mvT hZ (hw _ (List.mem_of_getElem? (i := 51) rfl)))) (mvT hZ (hw _ (List.mem_of_getElem? (i := 51) rfl))) (mvT hZ (hw _ (List.mem_of_getElem? (i := 50) rfl))) (by decide) (backOf (W := 0) (own_rm_eqI l Z a0 hw [] b234 x274 T272.heap n0 Zs278 q275) hZ (hw _ (List.mem_of_getElem? (i := 52) rfl)) (hw _ (List.mem_of_getElem? (i := 35) rfl)) (by decide) (by decide)) q279a q279c (g := (mkF m 222 #[.val (.long p1), .second, .val (.long p2), .second, .val (.int p3), .val (.int p4), .val (.int p5), .val (.ref b186), .val (.ref b209), .val (.int (0 : Int32)), .val (.int p4), .val (.int ((p5 >>> ((2 : Int32) &&& 31)) &&& (3 : Int32))), .val (.ref b209), .val (.ref b234), .val (.ref b245), .val (.int (if b186 = b186 then (if p3 = p3 then (1 : Int32) else 0) else 0)), .unset] [(.ref x274), (.ref b234)])) rfl (by rw [hml]; rfl) (Steps.refl _) (argsL := [(.ref x274)]) (rest := []) (lenOf own_pd4 rfl) rfl (by show 2 * 0 + _ ≤ _; exact Nat.le_of_eq rfl) (hb hby at_222) (fun _ _ => ⟨rfl, rfl, (by decide : 19 + 0 ≤ _), (by decide : 221 + 0 ≤ _)⟩)
            dsimp only [Pt.U, Pt.locs, Pt.cells, Pt.slots] at X279 l279 y279 z279 st279 hQ279
            subst l279 y279 z279
            obtain ⟨N279q, rfl, eh279⟩ := hQ279
            have N281 := Fr.app N277 N279q
            refine own_tr st279 ?_
            show own_Go p e below s _ _ _ (T279.setTop (mkF m 225 #[.val (.long p1), .second, .val (.long p2), .second, .val (.int p3), .val (.int p4), .val (.int p5), .val (.ref b186), .val (.ref b209), .val (.int (0 : Int32)), .val (.int p4), .val (.int ((p5 >>> ((2 : Int32) &&& 31)) &&& (3 : Int32))), .val (.ref b209), .val (.ref b234), .val (.ref b245), .val (.int (if b186 = b186 then (if p3 = p3 then (1 : Int32) else 0) else 0)), .unset] [(.int (0 : Int32))]))
            refine own_st (fun _ k => XS.ifNo X279.here hx rfl (hb hby at_225) rfl (XT.i0_ne_f (by decide)) k) ?_
            show own_Go p e below s _ _ _ (T279.setTop (mkF m 228 #[.val (.long p1), .second, .val (.long p2), .second, .val (.int p3), .val (.int p4), .val (.int p5), .val (.ref b186), .val (.ref b209), .val (.int (0 : Int32)), .val (.int p4), .val (.int ((p5 >>> ((2 : Int32) &&& 31)) &&& (3 : Int32))), .val (.ref b209), .val (.ref b234), .val (.ref b245), .val (.int (if b186 = b186 then (if p3 = p3 then (1 : Int32) else 0) else 0)), .unset] []))
            refine own_st (fun _ k => XT.iconstV X279.here hx rfl (1 : Int32) (hb hby at_228) (by decide) k) ?_
            show own_Go p e below s _ _ _ (T279.setTop (mkF m 229 #[.val (.long p1), .second, .val (.long p2), .second, .val (.int p3), .val (.int p4), .val (.int p5), .val (.ref b186), .val (.ref b209), .val (.int (0 : Int32)), .val (.int p4), .val (.int ((p5 >>> ((2 : Int32) &&& 31)) &&& (3 : Int32))), .val (.ref b209), .val (.ref b234), .val (.ref b245), .val (.int (if b186 = b186 then (if p3 = p3 then (1 : Int32) else 0) else 0)), .unset] [(.int (1 : Int32))]))
            refine own_st (fun _ k => XS.goto X279.here hx rfl (pc0 := 229) (pc' := 233) rfl (hb hby at_229) (by decide) (by decide) k) ?_
            show own_Go p e below s _ _ _ (T279.setTop (mkF m 233 #[.val (.long p1), .second, .val (.long p2), .second, .val (.int p3), .val (.int p4), .val (.int p5), .val (.ref b186), .val (.ref b209), .val (.int (0 : Int32)), .val (.int p4), .val (.int ((p5 >>> ((2 : Int32) &&& 31)) &&& (3 : Int32))), .val (.ref b209), .val (.ref b234), .val (.ref b245), .val (.int (if b186 = b186 then (if p3 = p3 then (1 : Int32) else 0) else 0)), .unset] [(.int (1 : Int32))]))
            refine own_st (fun _ k => XS.istore X279.here hx rfl (hb hby at_233) rfl (l' := #[.val (.long p1), .second, .val (.long p2), .second, .val (.int p3), .val (.int p4), .val (.int p5), .val (.ref b186), .val (.ref b209), .val (.int (0 : Int32)), .val (.int p4), .val (.int ((p5 >>> ((2 : Int32) &&& 31)) &&& (3 : Int32))), .val (.ref b209), .val (.ref b234), .val (.ref b245), .val (.int (1 : Int32)), .unset]) rfl k) ?_
            show own_Go p e below s _ _ _ (T279.setTop (mkF m 235 #[.val (.long p1), .second, .val (.long p2), .second, .val (.int p3), .val (.int p4), .val (.int p5), .val (.ref b186), .val (.ref b209), .val (.int (0 : Int32)), .val (.int p4), .val (.int ((p5 >>> ((2 : Int32) &&& 31)) &&& (3 : Int32))), .val (.ref b209), .val (.ref b234), .val (.ref b245), .val (.int (1 : Int32)), .unset] []))
            refine own_st (fun _ k => XS.goto X279.here hx rfl (pc0 := 235) (pc' := 282) rfl (hb hby at_235) (by decide) (by decide) k) ?_
            show own_Go p e below s _ _ _ (T279.setTop (mkF m 282 #[.val (.long p1), .second, .val (.long p2), .second, .val (.int p3), .val (.int p4), .val (.int p5), .val (.ref b186), .val (.ref b209), .val (.int (0 : Int32)), .val (.int p4), .val (.int ((p5 >>> ((2 : Int32) &&& 31)) &&& (3 : Int32))), .val (.ref b209), .val (.ref b234), .val (.ref b245), .val (.int (1 : Int32)), .unset] []))
            refine own_st (fun _ k => XS.iload X279.here hx rfl (hb hby at_282) rfl k) ?_
            show own_Go p e below s _ _ _ (T279.setTop (mkF m 284 #[.val (.long p1), .second, .val (.long p2), .second, .val (.int p3), .val (.int p4), .val (.int p5), .val (.ref b186), .val (.ref b209), .val (.int (0 : Int32)), .val (.int p4), .val (.int ((p5 >>> ((2 : Int32) &&& 31)) &&& (3 : Int32))), .val (.ref b209), .val (.ref b234), .val (.ref b245), .val (.int (1 : Int32)), .unset] [(.int (1 : Int32))]))
            refine own_retN X279 hx hlk Bd.returns (t := .boolean) (z' := (1 : Int32)) (by simp) (by decide) (hb hby at_284) (by decide) (by decide) ?_
            rw [eh279]
            exact ⟨N281, rfl⟩
          · refine own_st (fun _ k => XS.icmpYes X256.here hx rfl (pc0 := 207) (pc' := 238) rfl (hb hby at_207) rfl (XT.ii_ne_t hc271) (by decide) (by decide) k) ?_
            show own_Go p e below s _ _ _ (T256.setTop (mkF m 238 #[.val (.long p1), .second, .val (.long p2), .second, .val (.int p3), .val (.int p4), .val (.int p5), .val (.ref b186), .val (.ref b209), .val (.int (0 : Int32)), .val (.int p4), .val (.int ((p5 >>> ((2 : Int32) &&& 31)) &&& (3 : Int32))), .val (.ref b209), .val (.ref b234), .val (.ref b245), .val (.int (if b186 = b186 then (if p3 = p3 then (1 : Int32) else 0) else 0)), .unset] []))
            refine own_st (fun _ k => XS.iload X256.here hx rfl (hb hby at_238) rfl k) ?_
            show own_Go p e below s _ _ _ (T256.setTop (mkF m 240 #[.val (.long p1), .second, .val (.long p2), .second, .val (.int p3), .val (.int p4), .val (.int p5), .val (.ref b186), .val (.ref b209), .val (.int (0 : Int32)), .val (.int p4), .val (.int ((p5 >>> ((2 : Int32) &&& 31)) &&& (3 : Int32))), .val (.ref b209), .val (.ref b234), .val (.ref b245), .val (.int (if b186 = b186 then (if p3 = p3 then (1 : Int32) else 0) else 0)), .unset] [(.int (0 : Int32))]))
            refine own_st (fun _ k => XS.ifYes X256.here hx rfl (pc0 := 240) (pc' := 252) rfl (hb hby at_240) rfl (XT.i0_eq_t (by decide)) (by decide) (by decide) k) ?_
            show own_Go p e below s _ _ _ (T256.setTop (mkF m 252 #[.val (.long p1), .second, .val (.long p2), .second, .val (.int p3), .val (.int p4), .val (.int p5), .val (.ref b186), .val (.ref b209), .val (.int (0 : Int32)), .val (.int p4), .val (.int ((p5 >>> ((2 : Int32) &&& 31)) &&& (3 : Int32))), .val (.ref b209), .val (.ref b234), .val (.ref b245), .val (.int (if b186 = b186 then (if p3 = p3 then (1 : Int32) else 0) else 0)), .unset] []))
            refine own_st (fun _ k => XT.iconstV X256.here hx rfl (0 : Int32) (hb hby at_252) (by decide) k) ?_
            show own_Go p e below s _ _ _ (T256.setTop (mkF m 253 #[.val (.long p1), .second, .val (.long p2), .second, .val (.int p3), .val (.int p4), .val (.int p5), .val (.ref b186), .val (.ref b209), .val (.int (0 : Int32)), .val (.int p4), .val (.int ((p5 >>> ((2 : Int32) &&& 31)) &&& (3 : Int32))), .val (.ref b209), .val (.ref b234), .val (.ref b245), .val (.int (if b186 = b186 then (if p3 = p3 then (1 : Int32) else 0) else 0)), .unset] [(.int (0 : Int32))]))
            refine own_st (fun _ k => XS.istore X256.here hx rfl (hb hby at_253) rfl (l' := #[.val (.long p1), .second, .val (.long p2), .second, .val (.int p3), .val (.int p4), .val (.int p5), .val (.ref b186), .val (.ref b209), .val (.int (0 : Int32)), .val (.int p4), .val (.int ((p5 >>> ((2 : Int32) &&& 31)) &&& (3 : Int32))), .val (.ref b209), .val (.ref b234), .val (.ref b245), .val (.int (if b186 = b186 then (if p3 = p3 then (1 : Int32) else 0) else 0)), .val (.int (0 : Int32))]) rfl k) ?_
            show own_Go p e below s _ _ _ (T256.setTop (mkF m 255 #[.val (.long p1), .second, .val (.long p2), .second, .val (.int p3), .val (.int p4), .val (.int p5), .val (.ref b186), .val (.ref b209), .val (.int (0 : Int32)), .val (.int p4), .val (.int ((p5 >>> ((2 : Int32) &&& 31)) &&& (3 : Int32))), .val (.ref b209), .val (.ref b234), .val (.ref b245), .val (.int (if b186 = b186 then (if p3 = p3 then (1 : Int32) else 0) else 0)), .val (.int (0 : Int32))] []))
            refine own_st (fun _ k => XS.iload X256.here hx rfl (hb hby at_255) rfl k) ?_
            show own_Go p e below s _ _ _ (T256.setTop (mkF m 257 #[.val (.long p1), .second, .val (.long p2), .second, .val (.int p3), .val (.int p4), .val (.int p5), .val (.ref b186), .val (.ref b209), .val (.int (0 : Int32)), .val (.int p4), .val (.int ((p5 >>> ((2 : Int32) &&& 31)) &&& (3 : Int32))), .val (.ref b209), .val (.ref b234), .val (.ref b245), .val (.int (if b186 = b186 then (if p3 = p3 then (1 : Int32) else 0) else 0)), .val (.int (0 : Int32))] [(.int (if b186 = b186 then (if p3 = p3 then (1 : Int32) else 0) else 0))]))
            refine own_st (fun _ k => XS.ifNo X256.here hx rfl (hb hby at_257) rfl (XT.i0_eq_f (by simp)) k) ?_
            show own_Go p e below s _ _ _ (T256.setTop (mkF m 260 #[.val (.long p1), .second, .val (.long p2), .second, .val (.int p3), .val (.int p4), .val (.int p5), .val (.ref b186), .val (.ref b209), .val (.int (0 : Int32)), .val (.int p4), .val (.int ((p5 >>> ((2 : Int32) &&& 31)) &&& (3 : Int32))), .val (.ref b209), .val (.ref b234), .val (.ref b245), .val (.int (if b186 = b186 then (if p3 = p3 then (1 : Int32) else 0) else 0)), .val (.int (0 : Int32))] []))
            refine own_st (fun _ k => XS.aload X256.here hx rfl (hb hby at_260) rfl rfl k) ?_
            show own_Go p e below s _ _ _ (T256.setTop (mkF m 262 #[.val (.long p1), .second, .val (.long p2), .second, .val (.int p3), .val (.int p4), .val (.int p5), .val (.ref b186), .val (.ref b209), .val (.int (0 : Int32)), .val (.int p4), .val (.int ((p5 >>> ((2 : Int32) &&& 31)) &&& (3 : Int32))), .val (.ref b209), .val (.ref b234), .val (.ref b245), .val (.int (if b186 = b186 then (if p3 = p3 then (1 : Int32) else 0) else 0)), .val (.int (0 : Int32))] [(.ref b234)]))
            refine own_st (fun _ k => XS.aload X256.here hx rfl (hb hby at_262) rfl rfl k) ?_
            show own_Go p e below s _ _ _ (T256.setTop (mkF m 264 #[.val (.long p1), .second, .val (.long p2), .second, .val (.int p3), .val (.int p4), .val (.int p5), .val (.ref b186), .val (.ref b209), .val (.int (0 : Int32)), .val (.int p4), .val (.int ((p5 >>> ((2 : Int32) &&& 31)) &&& (3 : Int32))), .val (.ref b209), .val (.ref b234), .val (.ref b245), .val (.int (if b186 = b186 then (if p3 = p3 then (1 : Int32) else 0) else 0)), .val (.int (0 : Int32))] [(.ref b209), (.ref b234)]))
            have ne282 : b209 ≠ b234 := Nat.ne_of_lt (Nat.lt_of_lt_of_le (Nat.lt_of_lt_of_le A209.lt K221.1) (Nat.le_of_eq g234.symm))
            have ne283 : b209 ≠ b245 := Nat.ne_of_lt (Nat.lt_of_lt_of_le (Nat.lt_of_lt_of_le A209.lt (Nat.le_trans (Nat.le_trans K221.1 E234.1) K239.1)) (Nat.le_of_eq g245.symm))
            have F284 : Fld Z T250.heap b209 "com/example/treeloom/treeloom/xdm/Tree" "root" "Lcom/example/treeloom/treeloom/xdm/Node;" (.ref x222) := ((((q225.ext E234).keep K239 (ninS ne282 nin0)).ext E245).keep K250 (ninS ne283 nin0))
            obtain ⟨T285, X285, e285, st285⟩ := getF X256 hx hZ hown (host := "") (Or.inl (hw _ (List.mem_of_getElem? (i := 65) rfl))) Via.refl eh256 F284 (g := (mkF m 264 #[.val (.long p1), .second, .val (.long p2), .second, .val (.int p3), .val (.int p4), .val (.int p5), .val (.ref b186), .val (.ref b209), .val (.int (0 : Int32)), .val (.int p4), .val (.int ((p5 >>> ((2 : Int32) &&& 31)) &&& (3 : Int32))), .val (.ref b209), .val (.ref b234), .val (.ref b245), .val (.int (if b186 = b186 then (if p3 = p3 then (1 : Int32) else 0) else 0)), .val (.int (0 : Int32))] [(.ref b209), (.ref b234)])) rfl rfl (hb hby at_264)
            refine own_st st285 ?_
            show own_Go p e below s _ _ _ (T285.setTop (mkF m 267 #[.val (.long p1), .second, .val (.long p2), .second, .val (.int p3), .val (.int p4), .val (.int p5), .val (.ref b186), .val (.ref b209), .val (.int (0 : Int32)), .val (.int p4), .val (.int ((p5 >>> ((2 : Int32) &&& 31)) &&& (3 : Int32))), .val (.ref b209), .val (.ref b234), .val (.ref b245), .val (.int (if b186 = b186 then (if p3 = p3 then (1 : Int32) else 0) else 0)), .val (.int (0 : Int32))] [(.ref x222), (.ref b234)]))
            have F287 : Exa Z T250.heap x222 "com/example/treeloom/treeloom/xdm/Node" := ((((q226.ext E234).keep K239).ext E245).keep K250)
            have ne288 : x222 ≠ b234 := Nat.ne_of_lt (Nat.lt_of_lt_of_le q226.lt (Nat.le_of_eq g234.symm))
            have ne289 : x222 ≠ b245 := Nat.ne_of_lt (Nat.lt_of_lt_of_le (Nat.lt_of_lt_of_le q226.lt (Nat.le_trans E234.1 K239.1)) (Nat.le_of_eq g245.symm))
            have F290 : Fld Z T250.heap x222 "com/example/treeloom/treeloom/xdm/Node" "tree" "Lcom/example/treeloom/treeloom/xdm/Tree;" (.ref b209) := ((((q227.ext E234).keep K239 (ninS ne288 nin0)).ext E245).keep K250 (ninS ne289 nin0))
            have F291 : Fld Z T250.heap x222 "com/example/treeloom/treeloom/xdm/Node" "index" "I" (.int (0 : Int32)) := ((((q228.ext E234).keep K239 (ninS ne288 nin0)).ext E245).keep K250 (ninS ne289 nin0))
            obtain ⟨cq286, kq286, q286a, q286b, q286c⟩ := isOf hZ e285 F257
            obtain ⟨_, _, ⟨T286, L286, k286, n286⟩, -, X286, ⟨Lc286, hQ286, l286, y286, z286⟩, st286⟩ := X285.virtualBack hx (y := (⟨"com/example/treeloom/treeloom/xdm/Node", "equals", "(Ljava/lang/Object;)Z"⟩ : MethodName)) (z := (⟨"com/example/treeloom/treeloom/xdm/Node", "equals", "(Ljava/lang/Object;)Z"⟩ : MethodName)) hown (mvT hZ (hw _ (List.mem_of_getElem? (i := 48) rfl))) (mvT hZ (hw _ (List.mem_of_getElem? (i := 49) rfl))) (notFace_of_selects (args := #[]) (mvT hZ (hw _ (List.mem_of_getElem? (i := 51) rfl)))) (mvT hZ (hw _ (List.mem_of_getElem? (i := 51) rfl))) (mvT hZ (hw _ (List.mem_of_getElem? (i := 50) rfl))) (by decide) (backOf (W := 0) (own_rm_eqO l Z a0 hw [] b234 x222 b186 b209 p3 (0 : Int32) T250.heap n0 Zs255 F287 F259 F260 F290 F291) hZ (hw _ (List.mem_of_getElem? (i := 52) rfl)) (hw _ (List.mem_of_getElem? (i := 35) rfl)) (by decide) (by decide)) q286a q286c (g := (mkF m 267 #[.val (.long p1), .second, .val (.long p2), .second, .val (.int p3), .val (.int p4), .val (.int p5), .val (.ref b186), .val (.ref b209), .val (.int (0 : Int32)), .val (.int p4), .val (.int ((p5 >>> ((2 : Int32) &&& 31)) &&& (3 : Int32))), .val (.ref b209), .val (.ref b234), .val (.ref b245), .val (.int (if b186 = b186 then (if p3 = p3 then (1 : Int32) else 0) else 0)), .val (.int (0 : Int32))] [(.ref x222), (.ref b234)])) rfl (by rw [hml]; rfl) (Steps.refl _) (argsL := [(.ref x222)]) (rest := []) (lenOf own_pd4 rfl) rfl (by show 2 * 0 + _ ≤ _; exact Nat.le_of_eq rfl) (hb hby at_267) (fun _ _ => ⟨rfl, e285, (by decide : 18 + 0 ≤ _), (by decide : 220 + 0 ≤ _)⟩)
            dsimp only [Pt.U, Pt.locs, Pt.cells, Pt.slots] at X286 l286 y286 z286 st286 hQ286
            subst l286 y286 z286
            obtain ⟨N286q, rfl, eh286⟩ := hQ286
            have N292 := Fr.app N261 N286q
            refine own_tr st286 ?_
            show own_Go p e below s _ _ _ (T286.setTop (mkF m 270 #[.val (.long p1), .second, .val (.long p2), .second, .val (.int p3), .val (.int p4), .val (.int p5), .val (.ref b186), .val (.ref b209), .val (.int (0 : Int32)), .val (.int p4), .val (.int ((p5 >>> ((2 : Int32) &&& 31)) &&& (3 : Int32))), .val (.ref b209), .val (.ref b234), .val (.ref b245), .val (.int (if b186 = b186 then (if p3 = p3 then (1 : Int32) else 0) else 0)), .val (.int (0 : Int32))] [(.int (if b186 = b209 then (if p3 = (0 : Int32) then (1 : Int32) else 0) else 0))]))
            refine own_st (fun _ k => XS.iload X286.here hx rfl (hb hby at_270) rfl k) ?_
            show own_Go p e below s _ _ _ (T286.setTop (mkF m 272 #[.val (.long p1), .second, .val (.long p2), .second, .val (.int p3), .val (.int p4), .val (.int p5), .val (.ref b186), .val (.ref b209), .val (.int (0 : Int32)), .val (.int p4), .val (.int ((p5 >>> ((2 : Int32) &&& 31)) &&& (3 : Int32))), .val (.ref b209), .val (.ref b234), .val (.ref b245), .val (.int (if b186 = b186 then (if p3 = p3 then (1 : Int32) else 0) else 0)), .val (.int (0 : Int32))] [(.int (0 : Int32)), (.int (if b186 = b209 then (if p3 = (0 : Int32) then (1 : Int32) else 0) else 0))]))
            have ne293 : b186 ≠ b209 := Nat.ne_of_lt (Nat.lt_of_lt_of_le (Nat.lt_of_lt_of_le A186.lt K198.1) (Nat.le_of_eq g209.symm))
            refine own_st (fun _ k => XS.icmpNo X286.here hx rfl (hb hby at_272) rfl (XT.ii_ne_f (by simp [ne293, ne293.symm])) k) ?_
            show own_Go p e below s _ _ _ (T286.setTop (mkF m 275 #[.val (.long p1), .second, .val (.long p2), .second, .val (.int p3), .val (.int p4), .val (.int p5), .val (.ref b186), .val (.ref b209), .val (.int (0 : Int32)), .val (.int p4), .val (.int ((p5 >>> ((2 : Int32) &&& 31)) &&& (3 : Int32))), .val (.ref b209), .val (.ref b234), .val (.ref b245), .val (.int (if b186 = b186 then (if p3 = p3 then (1 : Int32) else 0) else 0)), .val (.int (0 : Int32))] []))
            refine own_st (fun _ k => XT.iconstV X286.here hx rfl (1 : Int32) (hb hby at_275) (by decide) k) ?_
            show own_Go p e below s _ _ _ (T286.setTop (mkF m 276 #[.val (.long p1), .second, .val (.long p2), .second, .val (.int p3), .val (.int p4), .val (.int p5), .val (.ref b186), .val (.ref b209), .val (.int (0 : Int32)), .val (.int p4), .val (.int ((p5 >>> ((2 : Int32) &&& 31)) &&& (3 : Int32))), .val (.ref b209), .val (.ref b234), .val (.ref b245), .val (.int (if b186 = b186 then (if p3 = p3 then (1 : Int32) else 0) else 0)), .val (.int (0 : Int32))] [(.int (1 : Int32))]))
            refine own_st (fun _ k => XS.goto X286.here hx rfl (pc0 := 276) (pc' := 280) rfl (hb hby at_276) (by decide) (by decide) k) ?_
            show own_Go p e below s _ _ _ (T286.setTop (mkF m 280 #[.val (.long p1), .second, .val (.long p2), .second, .val (.int p3), .val (.int p4), .val (.int p5), .val (.ref b186), .val (.ref b209), .val (.int (0 : Int32)), .val (.int p4), .val (.int ((p5 >>> ((2 : Int32) &&& 31)) &&& (3 : Int32))), .val (.ref b209), .val (.ref b234), .val (.ref b245), .val (.int (if b186 = b186 then (if p3 = p3 then (1 : Int32) else 0) else 0)), .val (.int (0 : Int32))] [(.int (1 : Int32))]))
            refine own_st (fun _ k => XS.istore X286.here hx rfl (hb hby at_280) rfl (l' := #[.val (.long p1), .second, .val (.long p2), .second, .val (.int p3), .val (.int p4), .val (.int p5), .val (.ref b186), .val (.ref b209), .val (.int (0 : Int32)), .val (.int p4), .val (.int ((p5 >>> ((2 : Int32) &&& 31)) &&& (3 : Int32))), .val (.ref b209), .val (.ref b234), .val (.ref b245), .val (.int (1 : Int32)), .val (.int (0 : Int32))]) rfl k) ?_
            show own_Go p e below s _ _ _ (T286.setTop (mkF m 282 #[.val (.long p1), .second, .val (.long p2), .second, .val (.int p3), .val (.int p4), .val (.int p5), .val (.ref b186), .val (.ref b209), .val (.int (0 : Int32)), .val (.int p4), .val (.int ((p5 >>> ((2 : Int32) &&& 31)) &&& (3 : Int32))), .val (.ref b209), .val (.ref b234), .val (.ref b245), .val (.int (1 : Int32)), .val (.int (0 : Int32))] []))
            refine own_st (fun _ k => XS.iload X286.here hx rfl (hb hby at_282) rfl k) ?_
            show own_Go p e below s _ _ _ (T286.setTop (mkF m 284 #[.val (.long p1), .second, .val (.long p2), .second, .val (.int p3), .val (.int p4), .val (.int p5), .val (.ref b186), .val (.ref b209), .val (.int (0 : Int32)), .val (.int p4), .val (.int ((p5 >>> ((2 : Int32) &&& 31)) &&& (3 : Int32))), .val (.ref b209), .val (.ref b234), .val (.ref b245), .val (.int (1 : Int32)), .val (.int (0 : Int32))] [(.int (1 : Int32))]))
            refine own_retN X286 hx hlk Bd.returns (t := .boolean) (z' := (1 : Int32)) (by simp) (by decide) (hb hby at_284) (by decide) (by decide) ?_
            rw [eh286]
            exact ⟨N292, rfl⟩
    · refine own_st (fun _ k => XS.ifNo X221.here hx rfl (hb hby at_42) rfl (XT.i0_eq_f hc233) k) ?_
      show own_Go p e below s _ _ _ (T221.setTop (mkF m 45 #[.val (.long p1), .second, .val (.long p2), .second, .val (.int p3), .val (.int p4), .val (.int p5), .val (.ref b186), .val (.ref b209), .val (.int (0 : Int32)), .unset, .unset, .unset, .unset, .unset, .unset, .unset] []))
      refine own_st (fun _ k => XS.iload X221.here hx rfl (hb hby at_45) rfl k) ?_
      show own_Go p e below s _ _ _ (T221.setTop (mkF m 47 #[.val (.long p1), .second, .val (.long p2), .second, .val (.int p3), .val (.int p4), .val (.int p5), .val (.ref b186), .val (.ref b209), .val (.int (0 : Int32)), .unset, .unset, .unset, .unset, .unset, .unset, .unset] [(.int p3)]))
      refine own_st (fun _ k => XS.goto X221.here hx rfl (pc0 := 47) (pc' := 52) rfl (hb hby at_47) (by decide) (by decide) k) ?_
      show own_Go p e below s _ _ _ (T221.setTop (mkF m 52 #[.val (.long p1), .second, .val (.long p2), .second, .val (.int p3), .val (.int p4), .val (.int p5), .val (.ref b186), .val (.ref b209), .val (.int (0 : Int32)), .unset, .unset, .unset, .unset, .unset, .unset, .unset] [(.int p3)]))
      refine own_st (fun _ k => XS.istore X221.here hx rfl (hb hby at_52) rfl (l' := #[.val (.long p1), .second, .val (.long p2), .second, .val (.int p3), .val (.int p4), .val (.int p5), .val (.ref b186), .val (.ref b209), .val (.int (0 : Int32)), .val (.int p3), .unset, .unset, .unset, .unset, .unset, .unset]) rfl k) ?_
      show own_Go p e below s _ _ _ (T221.setTop (mkF m 54 #[.val (.long p1), .second, .val (.long p2), .second, .val (.int p3), .val (.int p4), .val (.int p5), .val (.ref b186), .val (.ref b209), .val (.int (0 : Int32)), .val (.int p3), .unset, .unset, .unset, .unset, .unset, .unset] []))
      refine own_st (fun _ k => XS.iload X221.here hx rfl (hb hby at_54) rfl k) ?_
      show own_Go p e below s _ _ _ (T221.setTop (mkF m 56 #[.val (.long p1), .second, .val (.long p2), .second, .val (.int p3), .val (.int p4), .val (.int p5), .val (.ref b186), .val (.ref b209), .val (.int (0 : Int32)), .val (.int p3), .unset, .unset, .unset, .unset, .unset, .unset] [(.int p5)]))
      refine own_st (fun _ k => XT.iconstV X221.here hx rfl (2 : Int32) (hb hby at_56) (by decide) k) ?_
      show own_Go p e below s _ _ _ (T221.setTop (mkF m 57 #[.val (.long p1), .second, .val (.long p2), .second, .val (.int p3), .val (.int p4), .val (.int p5), .val (.ref b186), .val (.ref b209), .val (.int (0 : Int32)), .val (.int p3), .unset, .unset, .unset, .unset, .unset, .unset] [(.int (2 : Int32)), (.int p5)]))
      refine own_st (fun _ k => XT.ishr X221.here hx rfl (hb hby at_57) rfl k) ?_
      show own_Go p e below s _ _ _ (T221.setTop (mkF m 58 #[.val (.long p1), .second, .val (.long p2), .second, .val (.int p3), .val (.int p4), .val (.int p5), .val (.ref b186), .val (.ref b209), .val (.int (0 : Int32)), .val (.int p3), .unset, .unset, .unset, .unset, .unset, .unset] [(.int (p5 >>> ((2 : Int32) &&& 31)))]))
      refine own_st (fun _ k => XT.iconstV X221.here hx rfl (3 : Int32) (hb hby at_58) (by decide) k) ?_
      show own_Go p e below s _ _ _ (T221.setTop (mkF m 59 #[.val (.long p1), .second, .val (.long p2), .second, .val (.int p3), .val (.int p4), .val (.int p5), .val (.ref b186), .val (.ref b209), .val (.int (0 : Int32)), .val (.int p3), .unset, .unset, .unset, .unset, .unset, .unset] [(.int (3 : Int32)), (.int (p5 >>> ((2 : Int32) &&& 31)))]))
      refine own_st (fun _ k => XS.iand X221.here hx rfl (hb hby at_59) rfl k) ?_
      show own_Go p e below s _ _ _ (T221.setTop (mkF m 60 #[.val (.long p1), .second, .val (.long p2), .second, .val (.int p3), .val (.int p4), .val (.int p5), .val (.ref b186), .val (.ref b209), .val (.int (0 : Int32)), .val (.int p3), .unset, .unset, .unset, .unset, .unset, .unset] [(.int ((p5 >>> ((2 : Int32) &&& 31)) &&& (3 : Int32)))]))
      refine own_st (fun _ k => XS.istore X221.here hx rfl (hb hby at_60) rfl (l' := #[.val (.long p1), .second, .val (.long p2), .second, .val (.int p3), .val (.int p4), .val (.int p5), .val (.ref b186), .val (.ref b209), .val (.int (0 : Int32)), .val (.int p3), .val (.int ((p5 >>> ((2 : Int32) &&& 31)) &&& (3 : Int32))), .unset, .unset, .unset, .unset, .unset]) rfl k) ?_
      show own_Go p e below s _ _ _ (T221.setTop (mkF m 62 #[.val (.long p1), .second, .val (.long p2), .second, .val (.int p3), .val (.int p4), .val (.int p5), .val (.ref b186), .val (.ref b209), .val (.int (0 : Int32)), .val (.int p3), .val (.int ((p5 >>> ((2 : Int32) &&& 31)) &&& (3 : Int32))), .unset, .unset, .unset, .unset, .unset] []))
      refine own_st (fun _ k => XS.iload X221.here hx rfl (hb hby at_62) rfl k) ?_
      show own_Go p e below s _ _ _ (T221.setTop (mkF m 64 #[.val (.long p1), .second, .val (.long p2), .second, .val (.int p3), .val (.int p4), .val (.int p5), .val (.ref b186), .val (.ref b209), .val (.int (0 : Int32)), .val (.int p3), .val (.int ((p5 >>> ((2 : Int32) &&& 31)) &&& (3 : Int32))), .unset, .unset, .unset, .unset, .unset] [(.int (0 : Int32))]))
      refine own_st (fun _ k => XS.ifYes X221.here hx rfl (pc0 := 64) (pc' := 72) rfl (hb hby at_64) rfl (XT.i0_eq_t (by decide)) (by decide) (by decide) k) ?_
      show own_Go p e below s _ _ _ (T221.setTop (mkF m 72 #[.val (.long p1), .second, .val (.long p2), .second, .val (.int p3), .val (.int p4), .val (.int p5), .val (.ref b186), .val (.ref b209), .val (.int (0 : Int32)), .val (.int p3), .val (.int ((p5 >>> ((2 : Int32) &&& 31)) &&& (3 : Int32))), .unset, .unset, .unset, .unset, .unset] []))
      refine own_st (fun _ k => XS.aload X221.here hx rfl (hb hby at_72) rfl rfl k) ?_
      show own_Go p e below s _ _ _ (T221.setTop (mkF m 74 #[.val (.long p1), .second, .val (.long p2), .second, .val (.int p3), .val (.int p4), .val (.int p5), .val (.ref b186), .val (.ref b209), .val (.int (0 : Int32)), .val (.int p3), .val (.int ((p5 >>> ((2 : Int32) &&& 31)) &&& (3 : Int32))), .unset, .unset, .unset, .unset, .unset] [(.ref b209)]))
      refine own_st (fun _ k => XS.astore X221.here hx rfl (hb hby at_74) rfl rfl (l' := #[.val (.long p1), .second, .val (.long p2), .second, .val (.int p3), .val (.int p4), .val (.int p5), .val (.ref b186), .val (.ref b209), .val (.int (0 : Int32)), .val (.int p3), .val (.int ((p5 >>> ((2 : Int32) &&& 31)) &&& (3 : Int32))), .val (.ref b209), .unset, .unset, .unset, .unset]) rfl k) ?_
      show own_Go p e below s _ _ _ (T221.setTop (mkF m 76 #[.val (.long p1), .second, .val (.long p2), .second, .val (.int p3), .val (.int p4), .val (.int p5), .val (.ref b186), .val (.ref b209), .val (.int (0 : Int32)), .val (.int p3), .val (.int ((p5 >>> ((2 : Int32) &&& 31)) &&& (3 : Int32))), .val (.ref b209), .unset, .unset, .unset, .unset] []))
      obtain ⟨T294, h294, X294, e294, E294, A294, D294, -, st294⟩ := newO X221 hx hZ hown (hw _ (List.mem_of_getElem? (i := 46) rfl)) (hw _ (List.mem_of_getElem? (i := 34) rfl)) (hw _ (List.mem_of_getElem? (i := 35) rfl)) rfl (g := (mkF m 76 #[.val (.long p1), .second, .val (.long p2), .second, .val (.int p3), .val (.int p4), .val (.int p5), .val (.ref b186), .val (.ref b209), .val (.int (0 : Int32)), .val (.int p3), .val (.int ((p5 >>> ((2 : Int32) &&& 31)) &&& (3 : Int32))), .val (.ref b209), .unset, .unset, .unset, .unset] [])) rfl (hb hby at_76) (by decide) (by decide)
      obtain ⟨b294, g294⟩ : ∃ z, z = T221.heap.size := ⟨_, rfl⟩
      rw [← g294] at A294 D294 st294
      refine own_st st294 ?_
      have Zs295 : n0 ≤ h294.size := Nat.le_trans Zs230 E294.1
      have g296 : n0 ≤ b294 := Nat.le_trans Zs230 (Nat.le_of_eq g294.symm)
      have F297 : Fld Z h294 b294 "com/example/treeloom/treeloom/xdm/Node" "tree" "Lcom/example/treeloom/treeloom/xdm/Tree;" .null := D294 (Or.inr (hw _ (List.mem_of_getElem? (i := 41) rfl))) (ty := (.object "com/example/treeloom/treeloom/xdm/Tree")) (by decide)
      have F298 : Fld Z h294 b294 "com/example/treeloom/treeloom/xdm/Node" "index" "I" (.int (0 : Int32)) := D294 (Or.inr (hw _ (List.mem_of_getElem? (i := 43) rfl))) (ty := .int) (by decide)
      show own_Go p e below s _ _ _ (T294.setTop (mkF m 79 #[.val (.long p1), .second, .val (.long p2), .second, .val (.int p3), .val (.int p4), .val (.int p5), .val (.ref b186), .val (.ref b209), .val (.int (0 : Int32)), .val (.int p3), .val (.int ((p5 >>> ((2 : Int32) &&& 31)) &&& (3 : Int32))), .val (.ref b209), .unset, .unset, .unset, .unset] [(.ref b294)]))
      refine own_st (fun _ k => XS.dup X294.here hx rfl (hb hby at_79) rfl rfl k) ?_
      show own_Go p e below s _ _ _ (T294.setTop (mkF m 80 #[.val (.long p1), .second, .val (.long p2), .second, .val (.int p3), .val (.int p4), .val (.int p5), .val (.ref b186), .val (.ref b209), .val (.int (0 : Int32)), .val (.int p3), .val (.int ((p5 >>> ((2 : Int32) &&& 31)) &&& (3 : Int32))), .val (.ref b209), .unset, .unset, .unset, .unset] [(.ref b294), (.ref b294)]))
      refine own_st (fun _ k => XS.aload X294.here hx rfl (hb hby at_80) rfl rfl k) ?_
      show own_Go p e below s _ _ _ (T294.setTop (mkF m 82 #[.val (.long p1), .second, .val (.long p2), .second, .val (.int p3), .val (.int p4), .val (.int p5), .val (.ref b186), .val (.ref b209), .val (.int (0 : Int32)), .val (.int p3), .val (.int ((p5 >>> ((2 : Int32) &&& 31)) &&& (3 : Int32))), .val (.ref b209), .unset, .unset, .unset, .unset] [(.ref b186), (.ref b294), (.ref b294)]))
      refine own_st (fun _ k => XS.iload X294.here hx rfl (hb hby at_82) rfl k) ?_
      show own_Go p e below s _ _ _ (T294.setTop (mkF m 84 #[.val (.long p1), .second, .val (.long p2), .second, .val (.int p3), .val (.int p4), .val (.int p5), .val (.ref b186), .val (.ref b209), .val (.int (0 : Int32)), .val (.int p3), .val (.int ((p5 >>> ((2 : Int32) &&& 31)) &&& (3 : Int32))), .val (.ref b209), .unset, .unset, .unset, .unset] [(.int p3), (.ref b186), (.ref b294), (.ref b294)]))
      obtain ⟨_, _, ⟨T299, L299, k299, n299⟩, -, X299, ⟨Lc299, hQ299, l299, y299, z299⟩, st299⟩ := X294.specialBack hx (y := (⟨"com/example/treeloom/treeloom/xdm/Node", "<init>", "(Lcom/example/treeloom/treeloom/xdm/Tree;I)V"⟩ : MethodName)) rfl hown (mvT hZ (hw _ (List.mem_of_getElem? (i := 47) rfl))) (mvT hZ (hw _ (List.mem_of_getElem? (i := 37) rfl))) (mvT hZ (hw _ (List.mem_of_getElem? (i := 38) rfl))) (by decide) (backOf (W := 1) (own_rm_node l Z a0 hw [] b294 b186 p3 h294 n0 Zs295 A294 F297 F298 g296) hZ (hw _ (List.mem_of_getElem? (i := 38) rfl)) (hw _ (List.mem_of_getElem? (i := 35) rfl)) (by decide) (by decide)) (g := (mkF m 84 #[.val (.long p1), .second, .val (.long p2), .second, .val (.int p3), .val (.int p4), .val (.int p5), .val (.ref b186), .val (.ref b209), .val (.int (0 : Int32)), .val (.int p3), .val (.int ((p5 >>> ((2 : Int32) &&& 31)) &&& (3 : Int32))), .val (.ref b209), .unset, .unset, .unset, .unset] [(.int p3), (.ref b186), (.ref b294), (.ref b294)])) rfl (by rw [hml]; rfl) (Steps.refl _) (a := b294) (argsL := [(.ref b186), (.int p3)]) (rest := [(.ref b294)]) (lenOf own_pd2 rfl) rfl (by show 2 * 0 + _ ≤ _; exact Nat.le_of_eq rfl) (hb hby at_84) (fun _ _ => ⟨rfl, e294, (by decide : 17 + 0 ≤ _), (by decide : 218 + 0 ≤ _)⟩)
      dsimp only [Pt.U, Pt.locs, Pt.cells, Pt.slots] at X299 l299 y299 z299 st299 hQ299
      subst l299 y299 z299
      obtain ⟨N299q, rfl, K299, q300, q301, q302⟩ := hQ299
      have N303 := Fr.app N229 N299q
      refine own_tr st299 ?_
      have Zs304 : n0 ≤ T299.heap.size := Nat.le_trans Zs295 K299.1
      show own_Go p e below s _ _ _ (T299.setTop (mkF m 87 #[.val (.long p1), .second, .val (.long p2), .second, .val (.int p3), .val (.int p4), .val (.int p5), .val (.ref b186), .val (.ref b209), .val (.int (0 : Int32)), .val (.int p3), .val (.int ((p5 >>> ((2 : Int32) &&& 31)) &&& (3 : Int32))), .val (.ref b209), .unset, .unset, .unset, .unset] [(.ref b294)]))
      refine own_st (fun _ k => XS.astore X299.here hx rfl (hb hby at_87) rfl rfl (l' := #[.val (.long p1), .second, .val (.long p2), .second, .val (.int p3), .val (.int p4), .val (.int p5), .val (.ref b186), .val (.ref b209), .val (.int (0 : Int32)), .val (.int p3), .val (.int ((p5 >>> ((2 : Int32) &&& 31)) &&& (3 : Int32))), .val (.ref b209), .val (.ref b294), .unset, .unset, .unset]) rfl k) ?_
      show own_Go p e below s _ _ _ (T299.setTop (mkF m 89 #[.val (.long p1), .second, .val (.long p2), .second, .val (.int p3), .val (.int p4), .val (.int p5), .val (.ref b186), .val (.ref b209), .val (.int (0 : Int32)), .val (.int p3), .val (.int ((p5 >>> ((2 : Int32) &&& 31)) &&& (3 : Int32))), .val (.ref b209), .val (.ref b294), .unset, .unset, .unset] []))
      obtain ⟨T305, h305, X305, e305, E305, A305, D305, -, st305⟩ := newO X299 hx hZ hown (hw _ (List.mem_of_getElem? (i := 46) rfl)) (hw _ (List.mem_of_getElem? (i := 34) rfl)) (hw _ (List.mem_of_getElem? (i := 35) rfl)) rfl (g := (mkF m 89 #[.val (.long p1), .second, .val (.long p2), .second, .val (.int p3), .val (.int p4), .val (.int p5), .val (.ref b186), .val (.ref b209), .val (.int (0 : Int32)), .val (.int p3), .val (.int ((p5 >>> ((2 : Int32) &&& 31)) &&& (3 : Int32))), .val (.ref b209), .val (.ref b294), .unset, .unset, .unset] [])) rfl (hb hby at_89) (by decide) (by decide)
      obtain ⟨b305, g305⟩ : ∃ z, z = T299.heap.size := ⟨_, rfl⟩
      rw [← g305] at A305 D305 st305
      refine own_st st305 ?_
      have Zs306 : n0 ≤ h305.size := Nat.le_trans Zs304 E305.1
      have g307 : n0 ≤ b305 := Nat.le_trans Zs304 (Nat.le_of_eq g305.symm)
      have F308 : Fld Z h305 b305 "com/example/treeloom/treeloom/xdm/Node" "tree" "Lcom/example/treeloom/treeloom/xdm/Tree;" .null := D305 (Or.inr (hw _ (List.mem_of_getElem? (i := 41) rfl))) (ty := (.object "com/example/treeloom/treeloom/xdm/Tree")) (by decide)
      have F309 : Fld Z h305 b305 "com/example/treeloom/treeloom/xdm/Node" "index" "I" (.int (0 : Int32)) := D305 (Or.inr (hw _ (List.mem_of_getElem? (i := 43) rfl))) (ty := .int) (by decide)
      show own_Go p e below s _ _ _ (T305.setTop (mkF m 92 #[.val (.long p1), .second, .val (.long p2), .second, .val (.int p3), .val (.int p4), .val (.int p5), .val (.ref b186), .val (.ref b209), .val (.int (0 : Int32)), .val (.int p3), .val (.int ((p5 >>> ((2 : Int32) &&& 31)) &&& (3 : Int32))), .val (.ref b209), .val (.ref b294), .unset, .unset, .unset] [(.ref b305)]))
      refine own_st (fun _ k => XS.dup X305.here hx rfl (hb hby at_92) rfl rfl k) ?_
      show own_Go p e below s _ _ _ (T305.setTop (mkF m 93 #[.val (.long p1), .second, .val (.long p2), .second, .val (.int p3), .val (.int p4), .val (.int p5), .val (.ref b186), .val (.ref b209), .val (.int (0 : Int32)), .val (.int p3), .val (.int ((p5 >>> ((2 : Int32) &&& 31)) &&& (3 : Int32))), .val (.ref b209), .val (.ref b294), .unset, .unset, .unset] [(.ref b305), (.ref b305)]))
      refine own_st (fun _ k => XS.aload X305.here hx rfl (hb hby at_93) rfl rfl k) ?_
      show own_Go p e below s _ _ _ (T305.setTop (mkF m 95 #[.val (.long p1), .second, .val (.long p2), .second, .val (.int p3), .val (.int p4), .val (.int p5), .val (.ref b186), .val (.ref b209), .val (.int (0 : Int32)), .val (.int p3), .val (.int ((p5 >>> ((2 : Int32) &&& 31)) &&& (3 : Int32))), .val (.ref b209), .val (.ref b294), .unset, .unset, .unset] [(.ref b209), (.ref b305), (.ref b305)]))
      refine own_st (fun _ k => XS.iload X305.here hx rfl (hb hby at_95) rfl k) ?_
      show own_Go p e below s _ _ _ (T305.setTop (mkF m 97 #[.val (.long p1), .second, .val (.long p2), .second, .val (.int p3), .val (.int p4), .val (.int p5), .val (.ref b186), .val (.ref b209), .val (.int (0 : Int32)), .val (.int p3), .val (.int ((p5 >>> ((2 : Int32) &&& 31)) &&& (3 : Int32))), .val (.ref b209), .val (.ref b294), .unset, .unset, .unset] [(.int p3), (.ref b209), (.ref b305), (.ref b305)]))
      obtain ⟨_, _, ⟨T310, L310, k310, n310⟩, -, X310, ⟨Lc310, hQ310, l310, y310, z310⟩, st310⟩ := X305.specialBack hx (y := (⟨"com/example/treeloom/treeloom/xdm/Node", "<init>", "(Lcom/example/treeloom/treeloom/xdm/Tree;I)V"⟩ : MethodName)) rfl hown (mvT hZ (hw _ (List.mem_of_getElem? (i := 47) rfl))) (mvT hZ (hw _ (List.mem_of_getElem? (i := 37) rfl))) (mvT hZ (hw _ (List.mem_of_getElem? (i := 38) rfl))) (by decide) (backOf (W := 1) (own_rm_node l Z a0 hw [] b305 b209 p3 h305 n0 Zs306 A305 F308 F309 g307) hZ (hw _ (List.mem_of_getElem? (i := 38) rfl)) (hw _ (List.mem_of_getElem? (i := 35) rfl)) (by decide) (by decide)) (g := (mkF m 97 #[.val (.long p1), .second, .val (.long p2), .second, .val (.int p3), .val (.int p4), .val (.int p5), .val (.ref b186), .val (.ref b209), .val (.int (0 : Int32)), .val (.int p3), .val (.int ((p5 >>> ((2 : Int32) &&& 31)) &&& (3 : Int32))), .val (.ref b209), .val (.ref b294), .unset, .unset, .unset] [(.int p3), (.ref b209), (.ref b305), (.ref b305)])) rfl (by rw [hml]; rfl) (Steps.refl _) (a := b305) (argsL := [(.ref b209), (.int p3)]) (rest := [(.ref b305)]) (lenOf own_pd2 rfl) rfl (by show 2 * 0 + _ ≤ _; exact Nat.le_of_eq rfl) (hb hby at_97) (fun _ _ => ⟨rfl, e305, (by decide : 18 + 0 ≤ _), (by decide : 220 + 0 ≤ _)⟩)
      dsimp only [Pt.U, Pt.locs, Pt.cells, Pt.slots] at X310 l310 y310 z310 st310 hQ310
      subst l310 y310 z310
      obtain ⟨N310q, rfl, K310, q311, q312, q313⟩ := hQ310
      have N314 := Fr.app N303 N310q
      refine own_tr st310 ?_
      have Zs315 : n0 ≤ T310.heap.size := Nat.le_trans Zs306 K310.1
      show own_Go p e below s _ _ _ (T310.setTop (mkF m 100 #[.val (.long p1), .second, .val (.long p2), .second, .val (.int p3), .val (.int p4), .val (.int p5), .val (.ref b186), .val (.ref b209), .val (.int (0 : Int32)), .val (.int p3), .val (.int ((p5 >>> ((2 : Int32) &&& 31)) &&& (3 : Int32))), .val (.ref b209), .val (.ref b294), .unset, .unset, .unset] [(.ref b305)]))
      refine own_st (fun _ k => XS.astore X310.here hx rfl (hb hby at_100) rfl rfl (l' := #[.val (.long p1), .second, .val (.long p2), .second, .val (.int p3), .val (.int p4), .val (.int p5), .val (.ref b186), .val (.ref b209), .val (.int (0 : Int32)), .val (.int p3), .val (.int ((p5 >>> ((2 : Int32) &&& 31)) &&& (3 : Int32))), .val (.ref b209), .val (.ref b294), .val (.ref b305), .unset, .unset]) rfl k) ?_
      show own_Go p e below s _ _ _ (T310.setTop (mkF m 102 #[.val (.long p1), .second, .val (.long p2), .second, .val (.int p3), .val (.int p4), .val (.int p5), .val (.ref b186), .val (.ref b209), .val (.int (0 : Int32)), .val (.int p3), .val (.int ((p5 >>> ((2 : Int32) &&& 31)) &&& (3 : Int32))), .val (.ref b209), .val (.ref b294), .val (.ref b305), .unset, .unset] []))
      refine own_st (fun _ k => XS.aload X310.here hx rfl (hb hby at_102) rfl rfl k) ?_
      show own_Go p e below s _ _ _ (T310.setTop (mkF m 104 #[.val (.long p1), .second, .val (.long p2), .second, .val (.int p3), .val (.int p4), .val (.int p5), .val (.ref b186), .val (.ref b209), .val (.int (0 : Int32)), .val (.int p3), .val (.int ((p5 >>> ((2 : Int32) &&& 31)) &&& (3 : Int32))), .val (.ref b209), .val (.ref b294), .val (.ref b305), .unset, .unset] [(.ref b294)]))
      refine own_st (fun _ k => XS.aload X310.here hx rfl (hb hby at_104) rfl rfl k) ?_
      show own_Go p e below s _ _ _ (T310.setTop (mkF m 106 #[.val (.long p1), .second, .val (.long p2), .second, .val (.int p3), .val (.int p4), .val (.int p5), .val (.ref b186), .val (.ref b209), .val (.int (0 : Int32)), .val (.int p3), .val (.int ((p5 >>> ((2 : Int32) &&& 31)) &&& (3 : Int32))), .val (.ref b209), .val (.ref b294), .val (.ref b305), .unset, .unset] [(.ref b294), (.ref b294)]))
      have F317 : Exa Z T310.heap b294 "com/example/treeloom/treeloom/xdm/Node" := ((q300.ext E305).keep K310)
      have ne318 : b294 ≠ b305 := Nat.ne_of_lt (Nat.lt_of_lt_of_le (Nat.lt_of_lt_of_le A294.lt K299.1) (Nat.le_of_eq g305.symm))
      have F319 : Fld Z T310.heap b294 "com/example/treeloom/treeloom/xdm/Node" "tree" "Lcom/example/treeloom/treeloom/xdm/Tree;" (.ref b186) := ((q301.ext E305).keep K310 (ninS ne318 nin0))
      have F320 : Fld Z T310.heap b294 "com/example/treeloom/treeloom/xdm/Node" "index" "I" (.int p3) := ((q302.ext E305).keep K310 (ninS ne318 nin0))
      obtain ⟨cq316, kq316, q316a, q316b, q316c⟩ := isOf hZ rfl F317
      obtain ⟨_, _, ⟨T316, L316, k316, n316⟩, -, X316, ⟨Lc316, hQ316, l316, y316, z316⟩, st316⟩ := X310.virtualBack hx (y := (⟨"com/example/treeloom/treeloom/xdm/Node", "equals", "(Ljava/lang/Object;)Z"⟩ : MethodName)) (z := (⟨"com/example/treeloom/treeloom/xdm/Node", "equals", "(Ljava/lang/Object;)Z"⟩ : MethodName)) hown (mvT hZ (hw _ (List.mem_of_getElem? (i := 48) rfl))) (mvT hZ (hw _ (List.mem_of_getElem? (i := 49) rfl))) (notFace_of_selects (args := #[]) (mvT hZ (hw _ (List.mem_of_getElem? (i := 51) rfl)))) (mvT hZ (hw _ (List.mem_of_getElem? (i := 51) rfl))) (mvT hZ (hw _ (List.mem_of_getElem? (i := 50) rfl))) (by decide) (backOf (W := 0) (own_rm_eqO l Z a0 hw [] b294 b294 b186 b186 p3 p3 T310.heap n0 Zs315 F317 F319 F320 F319 F320) hZ (hw _ (List.mem_of_getElem? (i := 52) rfl)) (hw _ (List.mem_of_getElem? (i := 35) rfl)) (by decide) (by decide)) q316a q316c (g := (mkF m 106 #[.val (.long p1), .second, .val (.long p2), .second, .val (.int p3), .val (.int p4), .val (.int p5), .val (.ref b186), .val (.ref b209), .val (.int (0 : Int32)), .val (.int p3), .val (.int ((p5 >>> ((2 : Int32) &&& 31)) &&& (3 : Int32))), .val (.ref b209), .val (.ref b294), .val (.ref b305), .unset, .unset] [(.ref b294), (.ref b294)])) rfl (by rw [hml]; rfl) (Steps.refl _) (argsL := [(.ref b294)]) (rest := []) (lenOf own_pd4 rfl) rfl (by show 2 * 0 + _ ≤ _; exact Nat.le_of_eq rfl) (hb hby at_106) (fun _ _ => ⟨rfl, rfl, (by decide : 18 + 0 ≤ _), (by decide : 220 + 0 ≤ _)⟩)
      dsimp only [Pt.U, Pt.locs, Pt.cells, Pt.slots] at X316 l316 y316 z316 st316 hQ316
      subst l316 y316 z316
      obtain ⟨N316q, rfl, eh316⟩ := hQ316
      have N321 := Fr.app N314 N316q
      refine own_tr st316 ?_
      show own_Go p e below s _ _ _ (T316.setTop (mkF m 109 #[.val (.long p1), .second, .val (.long p2), .second, .val (.int p3), .val (.int p4), .val (.int p5), .val (.ref b186), .val (.ref b209), .val (.int (0 : Int32)), .val (.int p3), .val (.int ((p5 >>> ((2 : Int32) &&& 31)) &&& (3 : Int32))), .val (.ref b209), .val (.ref b294), .val (.ref b305), .unset, .unset] [(.int (if b186 = b186 then (if p3 = p3 then (1 : Int32) else 0) else 0))]))
      refine own_st (fun _ k => XS.istore X316.here hx rfl (hb hby at_109) rfl (l' := #[.val (.long p1), .second, .val (.long p2), .second, .val (.int p3), .val (.int p4), .val (.int p5), .val (.ref b186), .val (.ref b209), .val (.int (0 : Int32)), .val (.int p3), .val (.int ((p5 >>> ((2 : Int32) &&& 31)) &&& (3 : Int32))), .val (.ref b209), .val (.ref b294), .val (.ref b305), .val (.int (if b186 = b186 then (if p3 = p3 then (1 : Int32) else 0) else 0)), .unset]) rfl k) ?_
      show own_Go p e below s _ _ _ (T316.setTop (mkF m 111 #[.val (.long p1), .second, .val (.long p2), .second, .val (.int p3), .val (.int p4), .val (.int p5), .val (.ref b186), .val (.ref b209), .val (.int (0 : Int32)), .val (.int p3), .val (.int ((p5 >>> ((2 : Int32) &&& 31)) &&& (3 : Int32))), .val (.ref b209), .val (.ref b294), .val (.ref b305), .val (.int (if b186 = b186 then (if p3 = p3 then (1 : Int32) else 0) else 0)), .unset] []))
      refine own_st (fun _ k => XS.iload X316.here hx rfl (hb hby at_111) rfl k) ?_
      show own_Go p e below s _ _ _ (T316.setTop (mkF m 113 #[.val (.long p1), .second, .val (.long p2), .second, .val (.int p3), .val (.int p4), .val (.int p5), .val (.ref b186), .val (.ref b209), .val (.int (0 : Int32)), .val (.int p3), .val (.int ((p5 >>> ((2 : Int32) &&& 31)) &&& (3 : Int32))), .val (.ref b209), .val (.ref b294), .val (.ref b305), .val (.int (if b186 = b186 then (if p3 = p3 then (1 : Int32) else 0) else 0)), .unset] [(.int ((p5 >>> ((2 : Int32) &&& 31)) &&& (3 : Int32)))]))
      by_cases hc322 : ((p5 >>> ((2 : Int32) &&& 31)) &&& (3 : Int32)) = 0
      · refine own_st (fun _ k => XS.ifNo X316.here hx rfl (hb hby at_113) rfl (XT.i0_ne_f hc322) k) ?_
        show own_Go p e below s _ _ _ (T316.setTop (mkF m 116 #[.val (.long p1), .second, .val (.long p2), .second, .val (.int p3), .val (.int p4), .val (.int p5), .val (.ref b186), .val (.ref b209), .val (.int (0 : Int32)), .val (.int p3), .val (.int ((p5 >>> ((2 : Int32) &&& 31)) &&& (3 : Int32))), .val (.ref b209), .val (.ref b294), .val (.ref b305), .val (.int (if b186 = b186 then (if p3 = p3 then (1 : Int32) else 0) else 0)), .unset] []))
        refine own_st (fun _ k => XS.iload X316.here hx rfl (hb hby at_116) rfl k) ?_
        show own_Go p e below s _ _ _ (T316.setTop (mkF m 118 #[.val (.long p1), .second, .val (.long p2), .second, .val (.int p3), .val (.int p4), .val (.int p5), .val (.ref b186), .val (.ref b209), .val (.int (0 : Int32)), .val (.int p3), .val (.int ((p5 >>> ((2 : Int32) &&& 31)) &&& (3 : Int32))), .val (.ref b209), .val (.ref b294), .val (.ref b305), .val (.int (if b186 = b186 then (if p3 = p3 then (1 : Int32) else 0) else 0)), .unset] [(.int (0 : Int32))]))
        refine own_st (fun _ k => XS.ifYes X316.here hx rfl (pc0 := 118) (pc' := 132) rfl (hb hby at_118) rfl (XT.i0_eq_t (by decide)) (by decide) (by decide) k) ?_
        show own_Go p e below s _ _ _ (T316.setTop (mkF m 132 #[.val (.long p1), .second, .val (.long p2), .second, .val (.int p3), .val (.int p4), .val (.int p5), .val (.ref b186), .val (.ref b209), .val (.int (0 : Int32)), .val (.int p3), .val (.int ((p5 >>> ((2 : Int32) &&& 31)) &&& (3 : Int32))), .val (.ref b209), .val (.ref b294), .val (.ref b305), .val (.int (if b186 = b186 then (if p3 = p3 then (1 : Int32) else 0) else 0)), .unset] []))
        refine own_st (fun _ k => XT.iconstV X316.here hx rfl (0 : Int32) (hb hby at_132) (by decide) k) ?_
        show own_Go p e below s _ _ _ (T316.setTop (mkF m 133 #[.val (.long p1), .second, .val (.long p2), .second, .val (.int p3), .val (.int p4), .val (.int p5), .val (.ref b186), .val (.ref b209), .val (.int (0 : Int32)), .val (.int p3), .val (.int ((p5 >>> ((2 : Int32) &&& 31)) &&& (3 : Int32))), .val (.ref b209), .val (.ref b294), .val (.ref b305), .val (.int (if b186 = b186 then (if p3 = p3 then (1 : Int32) else 0) else 0)), .unset] [(.int (0 : Int32))]))
        refine own_st (fun _ k => XS.istore X316.here hx rfl (hb hby at_133) rfl (l' := #[.val (.long p1), .second, .val (.long p2), .second, .val (.int p3), .val (.int p4), .val (.int p5), .val (.ref b186), .val (.ref b209), .val (.int (0 : Int32)), .val (.int p3), .val (.int ((p5 >>> ((2 : Int32) &&& 31)) &&& (3 : Int32))), .val (.ref b209), .val (.ref b294), .val (.ref b305), .val (.int (if b186 = b186 then (if p3 = p3 then (1 : Int32) else 0) else 0)), .val (.int (0 : Int32))]) rfl k) ?_
        show own_Go p e below s _ _ _ (T316.setTop (mkF m 135 #[.val (.long p1), .second, .val (.long p2), .second, .val (.int p3), .val (.int p4), .val (.int p5), .val (.ref b186), .val (.ref b209), .val (.int (0 : Int32)), .val (.int p3), .val (.int ((p5 >>> ((2 : Int32) &&& 31)) &&& (3 : Int32))), .val (.ref b209), .val (.ref b294), .val (.ref b305), .val (.int (if b186 = b186 then (if p3 = p3 then (1 : Int32) else 0) else 0)), .val (.int (0 : Int32))] []))
        refine own_st (fun _ k => XS.iload X316.here hx rfl (hb hby at_135) rfl k) ?_
        show own_Go p e below s _ _ _ (T316.setTop (mkF m 137 #[.val (.long p1), .second, .val (.long p2), .second, .val (.int p3), .val (.int p4), .val (.int p5), .val (.ref b186), .val (.ref b209), .val (.int (0 : Int32)), .val (.int p3), .val (.int ((p5 >>> ((2 : Int32) &&& 31)) &&& (3 : Int32))), .val (.ref b209), .val (.ref b294), .val (.ref b305), .val (.int (if b186 = b186 then (if p3 = p3 then (1 : Int32) else 0) else 0)), .val (.int (0 : Int32))] [(.int (if b186 = b186 then (if p3 = p3 then (1 : Int32) else 0) else 0))]))
        refine own_st (fun _ k => XS.ifNo X316.here hx rfl (hb hby at_137) rfl (XT.i0_eq_f (by simp)) k) ?_
        show own_Go p e below s _ _ _ (T316.setTop (mkF m 140 #[.val (.long p1), .second, .val (.long p2), .second, .val (.int p3), .val (.int p4), .val (.int p5), .val (.ref b186), .val (.ref b209), .val (.int (0 : Int32)), .val (.int p3), .val (.int ((p5 >>> ((2 : Int32) &&& 31)) &&& (3 : Int32))), .val (.ref b209), .val (.ref b294), .val (.ref b305), .val (.int (if b186 = b186 then (if p3 = p3 then (1 : Int32) else 0) else 0)), .val (.int (0 : Int32))] []))
        refine own_st (fun _ k => XS.aload X316.here hx rfl (hb hby at_140) rfl rfl k) ?_
        show own_Go p e below s _ _ _ (T316.setTop (mkF m 142 #[.val (.long p1), .second, .val (.long p2), .second, .val (.int p3), .val (.int p4), .val (.int p5), .val (.ref b186), .val (.ref b209), .val (.int (0 : Int32)), .val (.int p3), .val (.int ((p5 >>> ((2 : Int32) &&& 31)) &&& (3 : Int32))), .val (.ref b209), .val (.ref b294), .val (.ref b305), .val (.int (if b186 = b186 then (if p3 = p3 then (1 : Int32) else 0) else 0)), .val (.int (0 : Int32))] [(.ref b294)]))
        refine own_st (fun _ k => XS.aload X316.here hx rfl (hb hby at_142) rfl rfl k) ?_
        show own_Go p e below s _ _ _ (T316.setTop (mkF m 144 #[.val (.long p1), .second, .val (.long p2), .second, .val (.int p3), .val (.int p4), .val (.int p5), .val (.ref b186), .val (.ref b209), .val (.int (0 : Int32)), .val (.int p3), .val (.int ((p5 >>> ((2 : Int32) &&& 31)) &&& (3 : Int32))), .val (.ref b209), .val (.ref b294), .val (.ref b305), .val (.int (if b186 = b186 then (if p3 = p3 then (1 : Int32) else 0) else 0)), .val (.int (0 : Int32))] [(.ref b305), (.ref b294)]))
        obtain ⟨cq323, kq323, q323a, q323b, q323c⟩ := isOf hZ eh316 F317
        obtain ⟨_, _, ⟨T323, L323, k323, n323⟩, -, X323, ⟨Lc323, hQ323, l323, y323, z323⟩, st323⟩ := X316.virtualBack hx (y := (⟨"com/example/treeloom/treeloom/xdm/Node", "equals", "(Ljava/lang/Object;)Z"⟩ : MethodName)) (z := (⟨"com/example/treeloom/treeloom/xdm/Node", "equals", "(Ljava/lang/Object;)Z"⟩ : MethodName)) hown (mvT hZ (hw _ (List.mem_of_getElem? (i := 48) rfl))) (mvT hZ (hw _ (List.mem_of_getElem? (i := 49) rfl))) (notFace_of_selects (args := #[]) (mvT hZ (hw _ (List.mem_of_getElem? (i := 51) rfl)))) (mvT hZ (hw _ (List.mem_of_getElem? (i := 51) rfl))) (mvT hZ (hw _ (List.mem_of_getElem? (i := 50) rfl))) (by decide) (backOf (W := 0) (own_rm_eqO l Z a0 hw [] b294 b305 b186 b209 p3 p3 T310.heap n0 Zs315 q311 F319 F320 q312 q313) hZ (hw _ (List.mem_of_getElem? (i := 52) rfl)) (hw _ (List.mem_of_getElem? (i := 35) rfl)) (by decide) (by decide)) q323a q323c (g := (mkF m 144 #[.val (.long p1), .second, .val (.long p2), .second, .val (.int p3), .val (.int p4), .val (.int p5), .val (.ref b186), .val (.ref b209), .val (.int (0 : Int32)), .val (.int p3), .val (.int ((p5 >>> ((2 : Int32) &&& 31)) &&& (3 : Int32))), .val (.ref b209), .val (.ref b294), .val (.ref b305), .val (.int (if b186 = b186 then (if p3 = p3 then (1 : Int32) else 0) else 0)), .val (.int (0 : Int32))] [(.ref b305), (.ref b294)])) rfl (by rw [hml]; rfl) (Steps.refl _) (argsL := [(.ref b305)]) (rest := []) (lenOf own_pd4 rfl) rfl (by show 2 * 0 + _ ≤ _; exact Nat.le_of_eq rfl) (hb hby at_144) (fun _ _ => ⟨rfl, eh316, (by decide : 18 + 0 ≤ _), (by decide : 220 + 0 ≤ _)⟩)
        dsimp only [Pt.U, Pt.locs, Pt.cells, Pt.slots] at X323 l323 y323 z323 st323 hQ323
        subst l323 y323 z323
        obtain ⟨N323q, rfl, eh323⟩ := hQ323
        have N324 := Fr.app N321 N323q
        refine own_tr st323 ?_
        show own_Go p e below s _ _ _ (T323.setTop (mkF m 147 #[.val (.long p1), .second, .val (.long p2), .second, .val (.int p3), .val (.int p4), .val (.int p5), .val (.ref b186), .val (.ref b209), .val (.int (0 : Int32)), .val (.int p3), .val (.int ((p5 >>> ((2 : Int32) &&& 31)) &&& (3 : Int32))), .val (.ref b209), .val (.ref b294), .val (.ref b305), .val (.int (if b186 = b186 then (if p3 = p3 then (1 : Int32) else 0) else 0)), .val (.int (0 : Int32))] [(.int (if b186 = b209 then (if p3 = p3 then (1 : Int32) else 0) else 0))]))
        refine own_st (fun _ k => XS.iload X323.here hx rfl (hb hby at_147) rfl k) ?_
        show own_Go p e below s _ _ _ (T323.setTop (mkF m 149 #[.val (.long p1), .second, .val (.long p2), .second, .val (.int p3), .val (.int p4), .val (.int p5), .val (.ref b186), .val (.ref b209), .val (.int (0 : Int32)), .val (.int p3), .val (.int ((p5 >>> ((2 : Int32) &&& 31)) &&& (3 : Int32))), .val (.ref b209), .val (.ref b294), .val (.ref b305), .val (.int (if b186 = b186 then (if p3 = p3 then (1 : Int32) else 0) else 0)), .val (.int (0 : Int32))] [(.int (0 : Int32)), (.int (if b186 = b209 then (if p3 = p3 then (1 : Int32) else 0) else 0))]))
        have ne325 : b186 ≠ b209 := Nat.ne_of_lt (Nat.lt_of_lt_of_le (Nat.lt_of_lt_of_le A186.lt K198.1) (Nat.le_of_eq g209.symm))
        refine own_st (fun _ k => XS.icmpNo X323.here hx rfl (hb hby at_149) rfl (XT.ii_ne_f (by simp [ne325, ne325.symm])) k) ?_
        show own_Go p e below s _ _ _ (T323.setTop (mkF m 152 #[.val (.long p1), .second, .val (.long p2), .second, .val (.int p3), .val (.int p4), .val (.int p5), .val (.ref b186), .val (.ref b209), .val (.int (0 : Int32)), .val (.int p3), .val (.int ((p5 >>> ((2 : Int32) &&& 31)) &&& (3 : Int32))), .val (.ref b209), .val (.ref b294), .val (.ref b305), .val (.int (if b186 = b186 then (if p3 = p3 then (1 : Int32) else 0) else 0)), .val (.int (0 : Int32))] []))
        refine own_st (fun _ k => XS.aload X323.here hx rfl (hb hby at_152) rfl rfl k) ?_
        show own_Go p e below s _ _ _ (T323.setTop (mkF m 154 #[.val (.long p1), .second, .val (.long p2), .second, .val (.int p3), .val (.int p4), .val (.int p5), .val (.ref b186), .val (.ref b209), .val (.int (0 : Int32)), .val (.int p3), .val (.int ((p5 >>> ((2 : Int32) &&& 31)) &&& (3 : Int32))), .val (.ref b209), .val (.ref b294), .val (.ref b305), .val (.int (if b186 = b186 then (if p3 = p3 then (1 : Int32) else 0) else 0)), .val (.int (0 : Int32))] [(.ref b305)]))
        refine own_st (fun _ k => XS.aload X323.here hx rfl (hb hby at_154) rfl rfl k) ?_
        show own_Go p e below s _ _ _ (T323.setTop (mkF m 156 #[.val (.long p1), .second, .val (.long p2), .second, .val (.int p3), .val (.int p4), .val (.int p5), .val (.ref b186), .val (.ref b209), .val (.int (0 : Int32)), .val (.int p3), .val (.int ((p5 >>> ((2 : Int32) &&& 31)) &&& (3 : Int32))), .val (.ref b209), .val (.ref b294), .val (.ref b305), .val (.int (if b186 = b186 then (if p3 = p3 then (1 : Int32) else 0) else 0)), .val (.int (0 : Int32))] [(.ref b294), (.ref b305)]))
        obtain ⟨cq326, kq326, q326a, q326b, q326c⟩ := isOf hZ eh323 q311
        obtain ⟨_, _, ⟨T326, L326, k326, n326⟩, -, X326, ⟨Lc326, hQ326, l326, y326, z326⟩, st326⟩ := X323.virtualBack hx (y := (⟨"com/example/treeloom/treeloom/xdm/Node", "equals", "(Ljava/lang/Object;)Z"⟩ : MethodName)) (z := (⟨"com/example/treeloom/treeloom/xdm/Node", "equals", "(Ljava/lang/Object;)Z"⟩ : MethodName)) hown (mvT hZ (hw _ (List.mem_of_getElem? (i := 48) rfl))) (mvT hZ (hw _ (List.mem_of_getElem? (i := 49) rfl))) (notFace_of_selects (args := #[]) (mvT hZ (hw _ (List.mem_of_getElem? (i := 51) rfl)))) (mvT hZ (hw _ (List.mem_of_getElem? (i := 51) rfl))) (mvT hZ (hw _ (List.mem_of_getElem? (i := 50) rfl))) (by decide) (backOf (W := 0) (own_rm_eqO l Z a0 hw [] b305 b294 b209 b186 p3 p3 T310.heap n0 Zs315 F317 q312 q313 F319 F320) hZ (hw _ (List.mem_of_getElem? (i := 52) rfl)) (hw _ (List.mem_of_getElem? (i := 35) rfl)) (by decide) (by decide)) q326a q326c (g := (mkF m 156 #[.val (.long p1), .second, .val (.long p2), .second, .val (.int p3), .val (.int p4), .val (.int p5), .val (.ref b186), .val (.ref b209), .val (.int (0 : Int32)), .val (.int p3), .val (.int ((p5 >>> ((2 : Int32) &&& 31)) &&& (3 : Int32))), .val (.ref b209), .val (.ref b294), .val (.ref b305), .val (.int (if b186 = b186 then (if p3 = p3 then (1 : Int32) else 0) else 0)), .val (.int (0 : Int32))] [(.ref b294), (.ref b305)])) rfl (by rw [hml]; rfl) (Steps.refl _) (argsL := [(.ref b294)]) (rest := []) (lenOf own_pd4 rfl) rfl (by show 2 * 0 + _ ≤ _; exact Nat.le_of_eq rfl) (hb hby at_156) (fun _ _ => ⟨rfl, eh323, (by decide : 18 + 0 ≤ _), (by decide : 220 + 0 ≤ _)⟩)
        dsimp only [Pt.U, Pt.locs, Pt.cells, Pt.slots] at X326 l326 y326 z326 st326 hQ326
        subst l326 y326 z326
        obtain ⟨N326q, rfl, eh326⟩ := hQ326
        have N327 := Fr.app N324 N326q
        refine own_tr st326 ?_
        show own_Go p e below s _ _ _ (T326.setTop (mkF m 159 #[.val (.long p1), .second, .val (.long p2), .second, .val (.int p3), .val (.int p4), .val (.int p5), .val (.ref b186), .val (.ref b209), .val (.int (0 : Int32)), .val (.int p3), .val (.int ((p5 >>> ((2 : Int32) &&& 31)) &&& (3 : Int32))), .val (.ref b209), .val (.ref b294), .val (.ref b305), .val (.int (if b186 = b186 then (if p3 = p3 then (1 : Int32) else 0) else 0)), .val (.int (0 : Int32))] [(.int (if b209 = b186 then (if p3 = p3 then (1 : Int32) else 0) else 0))]))
        refine own_st (fun _ k => XS.iload X326.here hx rfl (hb hby at_159) rfl k) ?_
        show own_Go p e below s _ _ _ (T326.setTop (mkF m 161 #[.val (.long p1), .second, .val (.long p2), .second, .val (.int p3), .val (.int p4), .val (.int p5), .val (.ref b186), .val (.ref b209), .val (.int (0 : Int32)), .val (.int p3), .val (.int ((p5 >>> ((2 : Int32) &&& 31)) &&& (3 : Int32))), .val (.ref b209), .val (.ref b294), .val (.ref b305), .val (.int (if b186 = b186 then (if p3 = p3 then (1 : Int32) else 0) else 0)), .val (.int (0 : Int32))] [(.int (0 : Int32)), (.int (if b209 = b186 then (if p3 = p3 then (1 : Int32) else 0) else 0))]))
        refine own_st (fun _ k => XS.icmpNo X326.here hx rfl (hb hby at_161) rfl (XT.ii_ne_f (by simp [ne325, ne325.symm])) k) ?_
        show own_Go p e below s _ _ _ (T326.setTop (mkF m 164 #[.val (.long p1), .second, .val (.long p2), .second, .val (.int p3), .val (.int p4), .val (.int p5), .val (.ref b186), .val (.ref b209), .val (.int (0 : Int32)), .val (.int p3), .val (.int ((p5 >>> ((2 : Int32) &&& 31)) &&& (3 : Int32))), .val (.ref b209), .val (.ref b294), .val (.ref b305), .val (.int (if b186 = b186 then (if p3 = p3 then (1 : Int32) else 0) else 0)), .val (.int (0 : Int32))] []))
        refine own_st (fun _ k => XT.iconstV X326.here hx rfl (1 : Int32) (hb hby at_164) (by decide) k) ?_
        show own_Go p e below s _ _ _ (T326.setTop (mkF m 165 #[.val (.long p1), .second, .val (.long p2), .second, .val (.int p3), .val (.int p4), .val (.int p5), .val (.ref b186), .val (.ref b209), .val (.int (0 : Int32)), .val (.int p3), .val (.int ((p5 >>> ((2 : Int32) &&& 31)) &&& (3 : Int32))), .val (.ref b209), .val (.ref b294), .val (.ref b305), .val (.int (if b186 = b186 then (if p3 = p3 then (1 : Int32) else 0) else 0)), .val (.int (0 : Int32))] [(.int (1 : Int32))]))
        refine own_st (fun _ k => XS.goto X326.here hx rfl (pc0 := 165) (pc' := 169) rfl (hb hby at_165) (by decide) (by decide) k) ?_
        show own_Go p e below s _ _ _ (T326.setTop (mkF m 169 #[.val (.long p1), .second, .val (.long p2), .second, .val (.int p3), .val (.int p4), .val (.int p5), .val (.ref b186), .val (.ref b209), .val (.int (0 : Int32)), .val (.int p3), .val (.int ((p5 >>> ((2 : Int32) &&& 31)) &&& (3 : Int32))), .val (.ref b209), .val (.ref b294), .val (.ref b305), .val (.int (if b186 = b186 then (if p3 = p3 then (1 : Int32) else 0) else 0)), .val (.int (0 : Int32))] [(.int (1 : Int32))]))
        refine own_st (fun _ k => XS.istore X326.here hx rfl (hb hby at_169) rfl (l' := #[.val (.long p1), .second, .val (.long p2), .second, .val (.int p3), .val (.int p4), .val (.int p5), .val (.ref b186), .val (.ref b209), .val (.int (0 : Int32)), .val (.int p3), .val (.int ((p5 >>> ((2 : Int32) &&& 31)) &&& (3 : Int32))), .val (.ref b209), .val (.ref b294), .val (.ref b305), .val (.int (1 : Int32)), .val (.int (0 : Int32))]) rfl k) ?_
        show own_Go p e below s _ _ _ (T326.setTop (mkF m 171 #[.val (.long p1), .second, .val (.long p2), .second, .val (.int p3), .val (.int p4), .val (.int p5), .val (.ref b186), .val (.ref b209), .val (.int (0 : Int32)), .val (.int p3), .val (.int ((p5 >>> ((2 : Int32) &&& 31)) &&& (3 : Int32))), .val (.ref b209), .val (.ref b294), .val (.ref b305), .val (.int (1 : Int32)), .val (.int (0 : Int32))] []))
        refine own_st (fun _ k => XS.goto X326.here hx rfl (pc0 := 171) (pc' := 282) rfl (hb hby at_171) (by decide) (by decide) k) ?_
        show own_Go p e below s _ _ _ (T326.setTop (mkF m 282 #[.val (.long p1), .second, .val (.long p2), .second, .val (.int p3), .val (.int p4), .val (.int p5), .val (.ref b186), .val (.ref b209), .val (.int (0 : Int32)), .val (.int p3), .val (.int ((p5 >>> ((2 : Int32) &&& 31)) &&& (3 : Int32))), .val (.ref b209), .val (.ref b294), .val (.ref b305), .val (.int (1 : Int32)), .val (.int (0 : Int32))] []))
        refine own_st (fun _ k => XS.iload X326.here hx rfl (hb hby at_282) rfl k) ?_
        show own_Go p e below s _ _ _ (T326.setTop (mkF m 284 #[.val (.long p1), .second, .val (.long p2), .second, .val (.int p3), .val (.int p4), .val (.int p5), .val (.ref b186), .val (.ref b209), .val (.int (0 : Int32)), .val (.int p3), .val (.int ((p5 >>> ((2 : Int32) &&& 31)) &&& (3 : Int32))), .val (.ref b209), .val (.ref b294), .val (.ref b305), .val (.int (1 : Int32)), .val (.int (0 : Int32))] [(.int (1 : Int32))]))
        refine own_retN X326 hx hlk Bd.returns (t := .boolean) (z' := (1 : Int32)) (by simp) (by decide) (hb hby at_284) (by decide) (by decide) ?_
        rw [eh326]
        exact ⟨N327, rfl⟩
      · refine own_st (fun _ k => XS.ifYes X316.here hx rfl (pc0 := 113) (pc' := 174) rfl (hb hby at_113) rfl (XT.i0_ne_t hc322) (by decide) (by decide) k) ?_
        show own_Go p e below s _ _ _ (T316.setTop (mkF m 174 #[.val (.long p1), .second, .val (.long p2), .second, .val (.int p3), .val (.int p4), .val (.int p5), .val (.ref b186), .val (.ref b209), .val (.int (0 : Int32)), .val (.int p3), .val (.int ((p5 >>> ((2 : Int32) &&& 31)) &&& (3 : Int32))), .val (.ref b209), .val (.ref b294), .val (.ref b305), .val (.int (if b186 = b186 then (if p3 = p3 then (1 : Int32) else 0) else 0)), .unset] []))
        refine own_st (fun _ k => XS.iload X316.here hx rfl (hb hby at_174) rfl k) ?_
        show own_Go p e below s _ _ _ (T316.setTop (mkF m 176 #[.val (.long p1), .second, .val (.long p2), .second, .val (.int p3), .val (.int p4), .val (.int p5), .val (.ref b186), .val (.ref b209), .val (.int (0 : Int32)), .val (.int p3), .val (.int ((p5 >>> ((2 : Int32) &&& 31)) &&& (3 : Int32))), .val (.ref b209), .val (.ref b294), .val (.ref b305), .val (.int (if b186 = b186 then (if p3 = p3 then (1 : Int32) else 0) else 0)), .unset] [(.int ((p5 >>> ((2 : Int32) &&& 31)) &&& (3 : Int32)))]))
        refine own_st (fun _ k => XT.iconstV X316.here hx rfl (1 : Int32) (hb hby at_176) (by decide) k) ?_
        show own_Go p e below s _ _ _ (T316.setTop (mkF m 177 #[.val (.long p1), .second, .val (.long p2), .second, .val (.int p3), .val (.int p4), .val (.int p5), .val (.ref b186), .val (.ref b209), .val (.int (0 : Int32)), .val (.int p3), .val (.int ((p5 >>> ((2 : Int32) &&& 31)) &&& (3 : Int32))), .val (.ref b209), .val (.ref b294), .val (.ref b305), .val (.int (if b186 = b186 then (if p3 = p3 then (1 : Int32) else 0) else 0)), .unset] [(.int (1 : Int32)), (.int ((p5 >>> ((2 : Int32) &&& 31)) &&& (3 : Int32)))]))
        by_cases hc328 : ((p5 >>> ((2 : Int32) &&& 31)) &&& (3 : Int32)) = (1 : Int32)
        · refine own_st (fun _ k => XS.icmpNo X316.here hx rfl (hb hby at_177) rfl (XT.ii_ne_f hc328) k) ?_
          show own_Go p e below s _ _ _ (T316.setTop (mkF m 180 #[.val (.long p1), .second, .val (.long p2), .second, .val (.int p3), .val (.int p4), .val (.int p5), .val (.ref b186), .val (.ref b209), .val (.int (0 : Int32)), .val (.int p3), .val (.int ((p5 >>> ((2 : Int32) &&& 31)) &&& (3 : Int32))), .val (.ref b209), .val (.ref b294), .val (.ref b305), .val (.int (if b186 = b186 then (if p3 = p3 then (1 : Int32) else 0) else 0)), .unset] []))
          refine own_st (fun _ k => XS.iload X316.here hx rfl (hb hby at_180) rfl k) ?_
          show own_Go p e below s _ _ _ (T316.setTop (mkF m 182 #[.val (.long p1), .second, .val (.long p2), .second, .val (.int p3), .val (.int p4), .val (.int p5), .val (.ref b186), .val (.ref b209), .val (.int (0 : Int32)), .val (.int p3), .val (.int ((p5 >>> ((2 : Int32) &&& 31)) &&& (3 : Int32))), .val (.ref b209), .val (.ref b294), .val (.ref b305), .val (.int (if b186 = b186 then (if p3 = p3 then (1 : Int32) else 0) else 0)), .unset] [(.int (if b186 = b186 then (if p3 = p3 then (1 : Int32) else 0) else 0))]))
          refine own_st (fun _ k => XS.ifNo X316.here hx rfl (hb hby at_182) rfl (XT.i0_eq_f (by simp)) k) ?_
          show own_Go p e below s _ _ _ (T316.setTop (mkF m 185 #[.val (.long p1), .second, .val (.long p2), .second, .val (.int p3), .val (.int p4), .val (.int p5), .val (.ref b186), .val (.ref b209), .val (.int (0 : Int32)), .val (.int p3), .val (.int ((p5 >>> ((2 : Int32) &&& 31)) &&& (3 : Int32))), .val (.ref b209), .val (.ref b294), .val (.ref b305), .val (.int (if b186 = b186 then (if p3 = p3 then (1 : Int32) else 0) else 0)), .unset] []))
          refine own_st (fun _ k => XS.aload X316.here hx rfl (hb hby at_185) rfl rfl k) ?_
          show own_Go p e below s _ _ _ (T316.setTop (mkF m 187 #[.val (.long p1), .second, .val (.long p2), .second, .val (.int p3), .val (.int p4), .val (.int p5), .val (.ref b186), .val (.ref b209), .val (.int (0 : Int32)), .val (.int p3), .val (.int ((p5 >>> ((2 : Int32) &&& 31)) &&& (3 : Int32))), .val (.ref b209), .val (.ref b294), .val (.ref b305), .val (.int (if b186 = b186 then (if p3 = p3 then (1 : Int32) else 0) else 0)), .unset] [(.ref b294)]))
          refine own_st (fun _ k => XS.aconstNull X316.here hx rfl (hb hby at_187) k) ?_
          show own_Go p e below s _ _ _ (T316.setTop (mkF m 188 #[.val (.long p1), .second, .val (.long p2), .second, .val (.int p3), .val (.int p4), .val (.int p5), .val (.ref b186), .val (.ref b209), .val (.int (0 : Int32)), .val (.int p3), .val (.int ((p5 >>> ((2 : Int32) &&& 31)) &&& (3 : Int32))), .val (.ref b209), .val (.ref b294), .val (.ref b305), .val (.int (if b186 = b186 then (if p3 = p3 then (1 : Int32) else 0) else 0)), .unset] [.null, (.ref b294)]))
          obtain ⟨cq329, kq329, q329a, q329b, q329c⟩ := isOf hZ eh316 F317
          obtain ⟨_, _, ⟨T329, L329, k329, n329⟩, -, X329, ⟨Lc329, hQ329, l329, y329, z329⟩, st329⟩ := X316.virtualBack hx (y := (⟨"com/example/treeloom/treeloom/xdm/Node", "equals", "(Ljava/lang/Object;)Z"⟩ : MethodName)) (z := (⟨"com/example/treeloom/treeloom/xdm/Node", "equals", "(Ljava/lang/Object;)Z"⟩ : MethodName)) hown (mvT hZ (hw _ (List.mem_of_getElem? (i := 48) rfl))) (mvT hZ (hw _ (List.mem_of_getElem? (i := 49) rfl))) (notFace_of_selects (args := #[]) (mvT hZ (hw _ (List.mem_of_getElem? (i := 51) rfl)))) (mvT hZ (hw _ (List.mem_of_getElem? (i := 51) rfl))) (mvT hZ (hw _ (List.mem_of_getElem? (i := 50) rfl))) (by decide) (backOf (W := 0) (own_rm_eqN l Z a0 hw [] b294 T310.heap n0 Zs315 ) hZ (hw _ (List.mem_of_getElem? (i := 52) rfl)) (hw _ (List.mem_of_getElem? (i := 35) rfl)) (by decide) (by decide)) q329a q329c (g := (mkF m 188 #[.val (.long p1), .second, .val (.long p2), .second, .val (.int p3), .val (.int p4), .val (.int p5), .val (.ref b186), .val (.ref b209), .val (.int (0 : Int32)), .val (.int p3), .val (.int ((p5 >>> ((2 : Int32) &&& 31)) &&& (3 : Int32))), .val (.ref b209), .val (.ref b294), .val (.ref b305), .val (.int (if b186 = b186 then (if p3 = p3 then (1 : Int32) else 0) else 0)), .unset] [.null, (.ref b294)])) rfl (by rw [hml]; rfl) (Steps.refl _) (argsL := [.null]) (rest := []) (lenOf own_pd4 rfl) rfl (by show 2 * 0 + _ ≤ _; exact Nat.le_of_eq rfl) (hb hby at_188) (fun _ _ => ⟨rfl, eh316, (by decide : 18 + 0 ≤ _), (by decide : 220 + 0 ≤ _)⟩)
          dsimp only [Pt.U, Pt.locs, Pt.cells, Pt.slots] at X329 l329 y329 z329 st329 hQ329
          subst l329 y329 z329
          obtain ⟨N329q, rfl, eh329⟩ := hQ329
          have N330 := Fr.app N321 N329q
          refine own_tr st329 ?_
          show own_Go p e below s _ _ _ (T329.setTop (mkF m 191 #[.val (.long p1), .second, .val (.long p2), .second, .val (.int p3), .val (.int p4), .val (.int p5), .val (.ref b186), .val (.ref b209), .val (.int (0 : Int32)), .val (.int p3), .val (.int ((p5 >>> ((2 : Int32) &&& 31)) &&& (3 : Int32))), .val (.ref b209), .val (.ref b294), .val (.ref b305), .val (.int (if b186 = b186 then (if p3 = p3 then (1 : Int32) else 0) else 0)), .unset] [(.int (0 : Int32))]))
          refine own_st (fun _ k => XS.ifNo X329.here hx rfl (hb hby at_191) rfl (XT.i0_ne_f (by decide)) k) ?_
          show own_Go p e below s _ _ _ (T329.setTop (mkF m 194 #[.val (.long p1), .second, .val (.long p2), .second, .val (.int p3), .val (.int p4), .val (.int p5), .val (.ref b186), .val (.ref b209), .val (.int (0 : Int32)), .val (.int p3), .val (.int ((p5 >>> ((2 : Int32) &&& 31)) &&& (3 : Int32))), .val (.ref b209), .val (.ref b294), .val (.ref b305), .val (.int (if b186 = b186 then (if p3 = p3 then (1 : Int32) else 0) else 0)), .unset] []))
          refine own_st (fun _ k => XT.iconstV X329.here hx rfl (1 : Int32) (hb hby at_194) (by decide) k) ?_
          show own_Go p e below s _ _ _ (T329.setTop (mkF m 195 #[.val (.long p1), .second, .val (.long p2), .second, .val (.int p3), .val (.int p4), .val (.int p5), .val (.ref b186), .val (.ref b209), .val (.int (0 : Int32)), .val (.int p3), .val (.int ((p5 >>> ((2 : Int32) &&& 31)) &&& (3 : Int32))), .val (.ref b209), .val (.ref b294), .val (.ref b305), .val (.int (if b186 = b186 then (if p3 = p3 then (1 : Int32) else 0) else 0)), .unset] [(.int (1 : Int32))]))
          refine own_st (fun _ k => XS.goto X329.here hx rfl (pc0 := 195) (pc' := 199) rfl (hb hby at_195) (by decide) (by decide) k) ?_
          show own_Go p e below s _ _ _ (T329.setTop (mkF m 199 #[.val (.long p1), .second, .val (.long p2), .second, .val (.int p3), .val (.int p4), .val (.int p5), .val (.ref b186), .val (.ref b209), .val (.int (0 : Int32)), .val (.int p3), .val (.int ((p5 >>> ((2 : Int32) &&& 31)) &&& (3 : Int32))), .val (.ref b209), .val (.ref b294), .val (.ref b305), .val (.int (if b186 = b186 then (if p3 = p3 then (1 : Int32) else 0) else 0)), .unset] [(.int (1 : Int32))]))
          refine own_st (fun _ k => XS.istore X329.here hx rfl (hb hby at_199) rfl (l' := #[.val (.long p1), .second, .val (.long p2), .second, .val (.int p3), .val (.int p4), .val (.int p5), .val (.ref b186), .val (.ref b209), .val (.int (0 : Int32)), .val (.int p3), .val (.int ((p5 >>> ((2 : Int32) &&& 31)) &&& (3 : Int32))), .val (.ref b209), .val (.ref b294), .val (.ref b305), .val (.int (1 : Int32)), .unset]) rfl k) ?_
          show own_Go p e below s _ _ _ (T329.setTop (mkF m 201 #[.val (.long p1), .second, .val (.long p2), .second, .val (.int p3), .val (.int p4), .val (.int p5), .val (.ref b186), .val (.ref b209), .val (.int (0 : Int32)), .val (.int p3), .val (.int ((p5 >>> ((2 : Int32) &&& 31)) &&& (3 : Int32))), .val (.ref b209), .val (.ref b294), .val (.ref b305), .val (.int (1 : Int32)), .unset] []))
          refine own_st (fun _ k => XS.goto X329.here hx rfl (pc0 := 201) (pc' := 282) rfl (hb hby at_201) (by decide) (by decide) k) ?_
          show own_Go p e below s _ _ _ (T329.setTop (mkF m 282 #[.val (.long p1), .second, .val (.long p2), .second, .val (.int p3), .val (.int p4), .val (.int p5), .val (.ref b186), .val (.ref b209), .val (.int (0 : Int32)), .val (.int p3), .val (.int ((p5 >>> ((2 : Int32) &&& 31)) &&& (3 : Int32))), .val (.ref b209), .val (.ref b294), .val (.ref b305), .val (.int (1 : Int32)), .unset] []))
          refine own_st (fun _ k => XS.iload X329.here hx rfl (hb hby at_282) rfl k) ?_
          show own_Go p e below s _ _ _ (T329.setTop (mkF m 284 #[.val (.long p1), .second, .val (.long p2), .second, .val (.int p3), .val (.int p4), .val (.int p5), .val (.ref b186), .val (.ref b209), .val (.int (0 : Int32)), .val (.int p3), .val (.int ((p5 >>> ((2 : Int32) &&& 31)) &&& (3 : Int32))), .val (.ref b209), .val (.ref b294), .val (.ref b305), .val (.int (1 : Int32)), .unset] [(.int (1 : Int32))]))
          refine own_retN X329 hx hlk Bd.returns (t := .boolean) (z' := (1 : Int32)) (by simp) (by decide) (hb hby at_284) (by decide) (by decide) ?_
          rw [eh329]
          exact ⟨N330, rfl⟩
        · refine own_st (fun _ k => XS.icmpYes X316.here hx rfl (pc0 := 177) (pc' := 204) rfl (hb hby at_177) rfl (XT.ii_ne_t hc328) (by decide) (by decide) k) ?_
          show own_Go p e below s _ _ _ (T316.setTop (mkF m 204 #[.val (.long p1), .second, .val (.long p2), .second, .val (.int p3), .val (.int p4), .val (.int p5), .val (.ref b186), .val (.ref b209), .val (.int (0 : Int32)), .val (.int p3), .val (.int ((p5 >>> ((2 : Int32) &&& 31)) &&& (3 : Int32))), .val (.ref b209), .val (.ref b294), .val (.ref b305), .val (.int (if b186 = b186 then (if p3 = p3 then (1 : Int32) else 0) else 0)), .unset] []))
          refine own_st (fun _ k => XS.iload X316.here hx rfl (hb hby at_204) rfl k) ?_
          show own_Go p e below s _ _ _ (T316.setTop (mkF m 206 #[.val (.long p1), .second, .val (.long p2), .second, .val (.int p3), .val (.int p4), .val (.int p5), .val (.ref b186), .val (.ref b209), .val (.int (0 : Int32)), .val (.int p3), .val (.int ((p5 >>> ((2 : Int32) &&& 31)) &&& (3 : Int32))), .val (.ref b209), .val (.ref b294), .val (.ref b305), .val (.int (if b186 = b186 then (if p3 = p3 then (1 : Int32) else 0) else 0)), .unset] [(.int ((p5 >>> ((2 : Int32) &&& 31)) &&& (3 : Int32)))]))
          refine own_st (fun _ k => XT.iconstV X316.here hx rfl (2 : Int32) (hb hby at_206) (by decide) k) ?_
          show own_Go p e below s _ _ _ (T316.setTop (mkF m 207 #[.val (.long p1), .second, .val (.long p2), .second, .val (.int p3), .val (.int p4), .val (.int p5), .val (.ref b186), .val (.ref b209), .val (.int (0 : Int32)), .val (.int p3), .val (.int ((p5 >>> ((2 : Int32) &&& 31)) &&& (3 : Int32))), .val (.ref b209), .val (.ref b294), .val (.ref b305), .val (.int (if b186 = b186 then (if p3 = p3 then (1 : Int32) else 0) else 0)), .unset] [(.int (2 : Int32)), (.int ((p5 >>> ((2 : Int32) &&& 31)) &&& (3 : Int32)))]))
          by_cases hc331 : ((p5 >>> ((2 : Int32) &&& 31)) &&& (3 : Int32)) = (2 : Int32)
          · refine own_st (fun _ k => XS.icmpNo X316.here hx rfl (hb hby at_207) rfl (XT.ii_ne_f hc331) k) ?_
            show own_Go p e below s _ _ _ (T316.setTop (mkF m 210 #[.val (.long p1), .second, .val (.long p2), .second, .val (.int p3), .val (.int p4), .val (.int p5), .val (.ref b186), .val (.ref b209), .val (.int (0 : Int32)), .val (.int p3), .val (.int ((p5 >>> ((2 : Int32) &&& 31)) &&& (3 : Int32))), .val (.ref b209), .val (.ref b294), .val (.ref b305), .val (.int (if b186 = b186 then (if p3 = p3 then (1 : Int32) else 0) else 0)), .unset] []))
            refine own_st (fun _ k => XS.iload X316.here hx rfl (hb hby at_210) rfl k) ?_
            show own_Go p e below s _ _ _ (T316.setTop (mkF m 212 #[.val (.long p1), .second, .val (.long p2), .second, .val (.int p3), .val (.int p4), .val (.int p5), .val (.ref b186), .val (.ref b209), .val (.int (0 : Int32)), .val (.int p3), .val (.int ((p5 >>> ((2 : Int32) &&& 31)) &&& (3 : Int32))), .val (.ref b209), .val (.ref b294), .val (.ref b305), .val (.int (if b186 = b186 then (if p3 = p3 then (1 : Int32) else 0) else 0)), .unset] [(.int (if b186 = b186 then (if p3 = p3 then (1 : Int32) else 0) else 0))]))
            refine own_st (fun _ k => XS.ifNo X316.here hx rfl (hb hby at_212) rfl (XT.i0_eq_f (by simp)) k) ?_
            show own_Go p e below s _ _ _ (T316.setTop (mkF m 215 #[.val (.long p1), .second, .val (.long p2), .second, .val (.int p3), .val (.int p4), .val (.int p5), .val (.ref b186), .val (.ref b209), .val (.int (0 : Int32)), .val (.int p3), .val (.int ((p5 >>> ((2 : Int32) &&& 31)) &&& (3 : Int32))), .val (.ref b209), .val (.ref b294), .val (.ref b305), .val (.int (if b186 = b186 then (if p3 = p3 then (1 : Int32) else 0) else 0)), .unset] []))
            refine own_st (fun _ k => XS.aload X316.here hx rfl (hb hby at_215) rfl rfl k) ?_
            show own_Go p e below s _ _ _ (T316.setTop (mkF m 217 #[.val (.long p1), .second, .val (.long p2), .second, .val (.int p3), .val (.int p4), .val (.int p5), .val (.ref b186), .val (.ref b209), .val (.int (0 : Int32)), .val (.int p3), .val (.int ((p5 >>> ((2 : Int32) &&& 31)) &&& (3 : Int32))), .val (.ref b209), .val (.ref b294), .val (.ref b305), .val (.int (if b186 = b186 then (if p3 = p3 then (1 : Int32) else 0) else 0)), .unset] [(.ref b294)]))
            refine own_st (fun _ k => XS.iload X316.here hx rfl (hb hby at_217) rfl k) ?_
            show own_Go p e below s _ _ _ (T316.setTop (mkF m 219 #[.val (.long p1), .second, .val (.long p2), .second, .val (.int p3), .val (.int p4), .val (.int p5), .val (.ref b186), .val (.ref b209), .val (.int (0 : Int32)), .val (.int p3), .val (.int ((p5 >>> ((2 : Int32) &&& 31)) &&& (3 : Int32))), .val (.ref b209), .val (.ref b294), .val (.ref b305), .val (.int (if b186 = b186 then (if p3 = p3 then (1 : Int32) else 0) else 0)), .unset] [(.int p3), (.ref b294)]))
            have O333 : Old Z n0 T310.heap := ((((((((O0.ext E186).keep K198 (allS g188 all0)).ext E209).keep K221 (allS g211 all0)).ext E294).keep K299 (allS g296 all0)).ext E305).keep K310 (allS g307 all0))
            obtain ⟨_, _, ⟨T332, L332, k332, n332⟩, -, X332, ⟨Lc332, hQ332, l332, y332, z332⟩, st332⟩ := Jvm.LawKit.callS X316 hx (y := (⟨"java/lang/Integer", "valueOf", "(I)Ljava/lang/Integer;"⟩ : MethodName)) hown (mvT hZ (hw _ (List.mem_of_getElem? (i := 55) rfl))) (mvT hZ (hw _ (List.mem_of_getElem? (i := 56) rfl))) (mvT hZ (hw _ (List.mem_of_getElem? (i := 57) rfl))) (mvT hZ (hw _ (List.mem_of_getElem? (i := 58) rfl))) (by decide) (backOf (W := 1) (own_rm_valueOfI l Z a0 hw [] p3 a_cacheI T310.heap n0 Zs315 O333 S_cacheI BxI S_high) hZ (hw _ (List.mem_of_getElem? (i := 58) rfl)) (hw _ (List.mem_of_getElem? (i := 57) rfl)) (by decide) (by decide)) (g := (mkF m 219 #[.val (.long p1), .second, .val (.long p2), .second, .val (.int p3), .val (.int p4), .val (.int p5), .val (.ref b186), .val (.ref b209), .val (.int (0 : Int32)), .val (.int p3), .val (.int ((p5 >>> ((2 : Int32) &&& 31)) &&& (3 : Int32))), .val (.ref b209), .val (.ref b294), .val (.ref b305), .val (.int (if b186 = b186 then (if p3 = p3 then (1 : Int32) else 0) else 0)), .unset] [(.int p3), (.ref b294)])) rfl (by rw [hml]; rfl) (argsL := [(.int p3)]) (rest := [(.ref b294)]) (lenOf own_pd5 rfl) rfl (by show 2 * 0 + _ ≤ _; exact Nat.le_of_eq rfl) (hb hby at_219) (fun _ _ => ⟨rfl, eh316, (by decide : 18 + 1 ≤ _), (by decide : 220 + 1 ≤ _)⟩)
            dsimp only [Pt.U, Pt.locs, Pt.cells, Pt.slots] at X332 l332 y332 z332 st332 hQ332
            subst l332 y332 z332
            obtain ⟨x334, N332q, rfl, K332, q335, q336⟩ := hQ332
            have N337 := Fr.app N321 N332q
            refine own_st st332 ?_
            have Zs338 : n0 ≤ T332.heap.size := Nat.le_trans Zs315 K332.1
            show own_Go p e below s _ _ _ (T332.setTop (mkF m 222 #[.val (.long p1), .second, .val (.long p2), .second, .val (.int p3), .val (.int p4), .val (.int p5), .val (.ref b186), .val (.ref b209), .val (.int (0 : Int32)), .val (.int p3), .val (.int ((p5 >>> ((2 : Int32) &&& 31)) &&& (3 : Int32))), .val (.ref b209), .val (.ref b294), .val (.ref b305), .val (.int (if b186 = b186 then (if p3 = p3 then (1 : Int32) else 0) else 0)), .unset] [(.ref x334), (.ref b294)]))
            have F340 : Exa Z T332.heap b294 "com/example/treeloom/treeloom/xdm/Node" := (F317.keep K332)
            obtain ⟨cq339, kq339, q339a, q339b, q339c⟩ := isOf hZ rfl F340
            obtain ⟨_, _, ⟨T339, L339, k339, n339⟩, -, X339, ⟨Lc339, hQ339, l339, y339, z339⟩, st339⟩ := X332.virtualBack hx (y := (⟨"com/example/treeloom/treeloom/xdm/Node", "equals", "(Ljava/lang/Object;)Z"⟩ : MethodName)) (z := (⟨"com/example/treeloom/treeloom/xdm/Node", "equals", "(Ljava/lang/Object;)Z"⟩ : MethodName)) hown (mvT hZ (hw _ (List.mem_of_getElem? (i := 48) rfl))) (mvT hZ (hw _ (List.mem_of_getElem? (i := 49) rfl))) (notFace_of_selects (args := #[]) (mvT hZ (hw _ (List.mem_of_getElem? (i := 51) rfl)))) (mvT hZ (hw _ (List.mem_of_getElem? (i := 51) rfl))) (mvT hZ (hw _ (List.mem_of_getElem? (i := 50) rfl))) (by decide) (backOf (W := 0) (own_rm_eqI l Z a0 hw [] b294 x334 T332.heap n0 Zs338 q335) hZ (hw _ (List.mem_of_getElem? (i := 52) rfl)) (hw _ (List.mem_of_getElem? (i := 35) rfl)) (by decide) (by decide)) q339a q339c (g := (mkF m 222 #[.val (.long p1), .second, .val (.long p2), .second, .val (.int p3), .val (.int p4), .val (.int p5), .val (.ref b186), .val (.ref b209), .val (.int (0 : Int32)), .val (.int p3), .val (.int ((p5 >>> ((2 : Int32) &&& 31)) &&& (3 : Int32))), .val (.ref b209), .val (.ref b294), .val (.ref b305), .val (.int (if b186 = b186 then (if p3 = p3 then (1 : Int32) else 0) else 0)), .unset] [(.ref x334), (.ref b294)])) rfl (by rw [hml]; rfl) (Steps.refl _) (argsL := [(.ref x334)]) (rest := []) (lenOf own_pd4 rfl) rfl (by show 2 * 0 + _ ≤ _; exact Nat.le_of_eq rfl) (hb hby at_222) (fun _ _ => ⟨rfl, rfl, (by decide : 19 + 0 ≤ _), (by decide : 221 + 0 ≤ _)⟩)
            dsimp only [Pt.U, Pt.locs, Pt.cells, Pt.slots] at X339 l339 y339 z339 st339 hQ339
            subst l339 y339 z339
            obtain ⟨N339q, rfl, eh339⟩ := hQ339
            have N341 := Fr.app N337 N339q
            refine own_tr st339 ?_
            show own_Go p e below s _ _ _ (T339.setTop (mkF m 225 #[.val (.long p1), .second, .val (.long p2), .second, .val (.int p3), .val (.int p4), .val (.int p5), .val (.ref b186), .val (.ref b209), .val (.int (0 : Int32)), .val (.int p3), .val (.int ((p5 >>> ((2 : Int32) &&& 31)) &&& (3 : Int32))), .val (.ref b209), .val (.ref b294), .val (.ref b305), .val (.int (if b186 = b186 then (if p3 = p3 then (1 : Int32) else 0) else 0)), .unset] [(.int (0 : Int32))]))
            refine own_st (fun _ k => XS.ifNo X339.here hx rfl (hb hby at_225) rfl (XT.i0_ne_f (by decide)) k) ?_
            show own_Go p e below s _ _ _ (T339.setTop (mkF m 228 #[.val (.long p1), .second, .val (.long p2), .second, .val (.int p3), .val (.int p4), .val (.int p5), .val (.ref b186), .val (.ref b209), .val (.int (0 : Int32)), .val (.int p3), .val (.int ((p5 >>> ((2 : Int32) &&& 31)) &&& (3 : Int32))), .val (.ref b209), .val (.ref b294), .val (.ref b305), .val (.int (if b186 = b186 then (if p3 = p3 then (1 : Int32) else 0) else 0)), .unset] []))
            refine own_st (fun _ k => XT.iconstV X339.here hx rfl (1 : Int32) (hb hby at_228) (by decide) k) ?_
            show own_Go p e below s _ _ _ (T339.setTop (mkF m 229 #[.val (.long p1), .second, .val (.long p2), .second, .val (.int p3), .val (.int p4), .val (.int p5), .val (.ref b186), .val (.ref b209), .val (.int (0 : Int32)), .val (.int p3), .val (.int ((p5 >>> ((2 : Int32) &&& 31)) &&& (3 : Int32))), .val (.ref b209), .val (.ref b294), .val (.ref b305), .val (.int (if b186 = b186 then (if p3 = p3 then (1 : Int32) else 0) else 0)), .unset] [(.int (1 : Int32))]))
            refine own_st (fun _ k => XS.goto X339.here hx rfl (pc0 := 229) (pc' := 233) rfl (hb hby at_229) (by decide) (by decide) k) ?_
            show own_Go p e below s _ _ _ (T339.setTop (mkF m 233 #[.val (.long p1), .second, .val (.long p2), .second, .val (.int p3), .val (.int p4), .val (.int p5), .val (.ref b186), .val (.ref b209), .val (.int (0 : Int32)), .val (.int p3), .val (.int ((p5 >>> ((2 : Int32) &&& 31)) &&& (3 : Int32))), .val (.ref b209), .val (.ref b294), .val (.ref b305), .val (.int (if b186 = b186 then (if p3 = p3 then (1 : Int32) else 0) else 0)), .unset] [(.int (1 : Int32))]))
            refine own_st (fun _ k => XS.istore X339.here hx rfl (hb hby at_233) rfl (l' := #[.val (.long p1), .second, .val (.long p2), .second, .val (.int p3), .val (.int p4), .val (.int p5), .val (.ref b186), .val (.ref b209), .val (.int (0 : Int32)), .val (.int p3), .val (.int ((p5 >>> ((2 : Int32) &&& 31)) &&& (3 : Int32))), .val (.ref b209), .val (.ref b294), .val (.ref b305), .val (.int (1 : Int32)), .unset]) rfl k) ?_
            show own_Go p e below s _ _ _ (T339.setTop (mkF m 235 #[.val (.long p1), .second, .val (.long p2), .second, .val (.int p3), .val (.int p4), .val (.int p5), .val (.ref b186), .val (.ref b209), .val (.int (0 : Int32)), .val (.int p3), .val (.int ((p5 >>> ((2 : Int32) &&& 31)) &&& (3 : Int32))), .val (.ref b209), .val (.ref b294), .val (.ref b305), .val (.int (1 : Int32)), .unset] []))
            refine own_st (fun _ k => XS.goto X339.here hx rfl (pc0 := 235) (pc' := 282) rfl (hb hby at_235) (by decide) (by decide) k) ?_
            show own_Go p e below s _ _ _ (T339.setTop (mkF m 282 #[.val (.long p1), .second, .val (.long p2), .second, .val (.int p3), .val (.int p4), .val (.int p5), .val (.ref b186), .val (.ref b209), .val (.int (0 : Int32)), .val (.int p3), .val (.int ((p5 >>> ((2 : Int32) &&& 31)) &&& (3 : Int32))), .val (.ref b209), .val (.ref b294), .val (.ref b305), .val (.int (1 : Int32)), .unset] []))
            refine own_st (fun _ k => XS.iload X339.here hx rfl (hb hby at_282) rfl k) ?_
            show own_Go p e below s _ _ _ (T339.setTop (mkF m 284 #[.val (.long p1), .second, .val (.long p2), .second, .val (.int p3), .val (.int p4), .val (.int p5), .val (.ref b186), .val (.ref b209), .val (.int (0 : Int32)), .val (.int p3), .val (.int ((p5 >>> ((2 : Int32) &&& 31)) &&& (3 : Int32))), .val (.ref b209), .val (.ref b294), .val (.ref b305), .val (.int (1 : Int32)), .unset] [(.int (1 : Int32))]))
            refine own_retN X339 hx hlk Bd.returns (t := .boolean) (z' := (1 : Int32)) (by simp) (by decide) (hb hby at_284) (by decide) (by decide) ?_
            rw [eh339]
            exact ⟨N341, rfl⟩
          · refine own_st (fun _ k => XS.icmpYes X316.here hx rfl (pc0 := 207) (pc' := 238) rfl (hb hby at_207) rfl (XT.ii_ne_t hc331) (by decide) (by decide) k) ?_
            show own_Go p e below s _ _ _ (T316.setTop (mkF m 238 #[.val (.long p1), .second, .val (.long p2), .second, .val (.int p3), .val (.int p4), .val (.int p5), .val (.ref b186), .val (.ref b209), .val (.int (0 : Int32)), .val (.int p3), .val (.int ((p5 >>> ((2 : Int32) &&& 31)) &&& (3 : Int32))), .val (.ref b209), .val (.ref b294), .val (.ref b305), .val (.int (if b186 = b186 then (if p3 = p3 then (1 : Int32) else 0) else 0)), .unset] []))
            refine own_st (fun _ k => XS.iload X316.here hx rfl (hb hby at_238) rfl k) ?_
            show own_Go p e below s _ _ _ (T316.setTop (mkF m 240 #[.val (.long p1), .second, .val (.long p2), .second, .val (.int p3), .val (.int p4), .val (.int p5), .val (.ref b186), .val (.ref b209), .val (.int (0 : Int32)), .val (.int p3), .val (.int ((p5 >>> ((2 : Int32) &&& 31)) &&& (3 : Int32))), .val (.ref b209), .val (.ref b294), .val (.ref b305), .val (.int (if b186 = b186 then (if p3 = p3 then (1 : Int32) else 0) else 0)), .unset] [(.int (0 : Int32))]))
            refine own_st (fun _ k => XS.ifYes X316.here hx rfl (pc0 := 240) (pc' := 252) rfl (hb hby at_240) rfl (XT.i0_eq_t (by decide)) (by decide) (by decide) k) ?_
            show own_Go p e below s _ _ _ (T316.setTop (mkF m 252 #[.val (.long p1), .second, .val (.long p2), .second, .val (.int p3), .val (.int p4), .val (.int p5), .val (.ref b186), .val (.ref b209), .val (.int (0 : Int32)), .val (.int p3), .val (.int ((p5 >>> ((2 : Int32) &&& 31)) &&& (3 : Int32))), .val (.ref b209), .val (.ref b294), .val (.ref b305), .val (.int (if b186 = b186 then (if p3 = p3 then (1 : Int32) else 0) else 0)), .unset] []))
            refine own_st (fun _ k => XT.iconstV X316.here hx rfl (0 : Int32) (hb hby at_252) (by decide) k) ?_
            show own_Go p e below s _ _ _ (T316.setTop (mkF m 253 #[.val (.long p1), .second, .val (.long p2), .second, .val (.int p3), .val (.int p4), .val (.int p5), .val (.ref b186), .val (.ref b209), .val (.int (0 : Int32)), .val (.int p3), .val (.int ((p5 >>> ((2 : Int32) &&& 31)) &&& (3 : Int32))), .val (.ref b209), .val (.ref b294), .val (.ref b305), .val (.int (if b186 = b186 then (if p3 = p3 then (1 : Int32) else 0) else 0)), .unset] [(.int (0 : Int32))]))
            refine own_st (fun _ k => XS.istore X316.here hx rfl (hb hby at_253) rfl (l' := #[.val (.long p1), .second, .val (.long p2), .second, .val (.int p3), .val (.int p4), .val (.int p5), .val (.ref b186), .val (.ref b209), .val (.int (0 : Int32)), .val (.int p3), .val (.int ((p5 >>> ((2 : Int32) &&& 31)) &&& (3 : Int32))), .val (.ref b209), .val (.ref b294), .val (.ref b305), .val (.int (if b186 = b186 then (if p3 = p3 then (1 : Int32) else 0) else 0)), .val (.int (0 : Int32))]) rfl k) ?_
            show own_Go p e below s _ _ _ (T316.setTop (mkF m 255 #[.val (.long p1), .second, .val (.long p2), .second, .val (.int p3), .val (.int p4), .val (.int p5), .val (.ref b186), .val (.ref b209), .val (.int (0 : Int32)), .val (.int p3), .val (.int ((p5 >>> ((2 : Int32) &&& 31)) &&& (3 : Int32))), .val (.ref b209), .val (.ref b294), .val (.ref b305), .val (.int (if b186 = b186 then (if p3 = p3 then (1 : Int32) else 0) else 0)), .val (.int (0 : Int32))] []))
            refine own_st (fun _ k => XS.iload X316.here hx rfl (hb hby at_255) rfl k) ?_
            show own_Go p e below s _ _ _ (T316.setTop (mkF m 257 #[.val (.long p1), .second, .val (.long p2), .second, .val (.int p3), .val (.int p4), .val (.int p5), .val (.ref b186), .val (.ref b209), .val (.int (0 : Int32)), .val (.int p3), .val (.int ((p5 >>> ((2 : Int32) &&& 31)) &&& (3 : Int32))), .val (.ref b209), .val (.ref b294), .val (.ref b305), .val (.int (if b186 = b186 then (if p3 = p3 then (1 : Int32) else 0) else 0)), .val (.int (0 : Int32))] [(.int (if b186 = b186 then (if p3 = p3 then (1 : Int32) else 0) else 0))]))
            refine own_st (fun _ k => XS.ifNo X316.here hx rfl (hb hby at_257) rfl (XT.i0_eq_f (by simp)) k) ?_
            show own_Go p e below s _ _ _ (T316.setTop (mkF m 260 #[.val (.long p1), .second, .val (.long p2), .second, .val (.int p3), .val (.int p4), .val (.int p5), .val (.ref b186), .val (.ref b209), .val (.int (0 : Int32)), .val (.int p3), .val (.int ((p5 >>> ((2 : Int32) &&& 31)) &&& (3 : Int32))), .val (.ref b209), .val (.ref b294), .val (.ref b305), .val (.int (if b186 = b186 then (if p3 = p3 then (1 : Int32) else 0) else 0)), .val (.int (0 : Int32))] []))
            refine own_st (fun _ k => XS.aload X316.here hx rfl (hb hby at_260) rfl rfl k) ?_
            show own_Go p e below s _ _ _ (T316.setTop (mkF m 262 #[.val (.long p1), .second, .val (.long p2), .second, .val (.int p3), .val (.int p4), .val (.int p5), .val (.ref b186), .val (.ref b209), .val (.int (0 : Int32)), .val (.int p3), .val (.int ((p5 >>> ((2 : Int32) &&& 31)) &&& (3 : Int32))), .val (.ref b209), .val (.ref b294), .val (.ref b305), .val (.int (if b186 = b186 then (if p3 = p3 then (1 : Int32) else 0) else 0)), .val (.int (0 : Int32))] [(.ref b294)]))
            refine own_st (fun _ k => XS.aload X316.here hx rfl (hb hby at_262) rfl rfl k) ?_
            show own_Go p e below s _ _ _ (T316.setTop (mkF m 264 #[.val (.long p1), .second, .val (.long p2), .second, .val (.int p3), .val (.int p4), .val (.int p5), .val (.ref b186), .val (.ref b209), .val (.int (0 : Int32)), .val (.int p3), .val (.int ((p5 >>> ((2 : Int32) &&& 31)) &&& (3 : Int32))), .val (.ref b209), .val (.ref b294), .val (.ref b305), .val (.int (if b186 = b186 then (if p3 = p3 then (1 : Int32) else 0) else 0)), .val (.int (0 : Int32))] [(.ref b209), (.ref b294)]))
            have ne342 : b209 ≠ b294 := Nat.ne_of_lt (Nat.lt_of_lt_of_le (Nat.lt_of_lt_of_le A209.lt K221.1) (Nat.le_of_eq g294.symm))
            have ne343 : b209 ≠ b305 := Nat.ne_of_lt (Nat.lt_of_lt_of_le (Nat.lt_of_lt_of_le A209.lt (Nat.le_trans (Nat.le_trans K221.1 E294.1) K299.1)) (Nat.le_of_eq g305.symm))
            have F344 : Fld Z T310.heap b209 "com/example/treeloom/treeloom/xdm/Tree" "root" "Lcom/example/treeloom/treeloom/xdm/Node;" (.ref x222) := ((((q225.ext E294).keep K299 (ninS ne342 nin0)).ext E305).keep K310 (ninS ne343 nin0))
            obtain ⟨T345, X345, e345, st345⟩ := getF X316 hx hZ hown (host := "") (Or.inl (hw _ (List.mem_of_getElem? (i := 65) rfl))) Via.refl eh316 F344 (g := (mkF m 264 #[.val (.long p1), .second, .val (.long p2), .second, .val (.int p3), .val (.int p4), .val (.int p5), .val (.ref b186), .val (.ref b209), .val (.int (0 : Int32)), .val (.int p3), .val (.int ((p5 >>> ((2 : Int32) &&& 31)) &&& (3 : Int32))), .val (.ref b209), .val (.ref b294), .val (.ref b305), .val (.int (if b186 = b186 then (if p3 = p3 then (1 : Int32) else 0) else 0)), .val (.int (0 : Int32))] [(.ref b209), (.ref b294)])) rfl rfl (hb hby at_264)
            refine own_st st345 ?_
            show own_Go p e below s _ _ _ (T345.setTop (mkF m 267 #[.val (.long p1), .second, .val (.long p2), .second, .val (.int p3), .val (.int p4), .val (.int p5), .val (.ref b186), .val (.ref b209), .val (.int (0 : Int32)), .val (.int p3), .val (.int ((p5 >>> ((2 : Int32) &&& 31)) &&& (3 : Int32))), .val (.ref b209), .val (.ref b294), .val (.ref b305), .val (.int (if b186 = b186 then (if p3 = p3 then (1 : Int32) else 0) else 0)), .val (.int (0 : Int32))] [(.ref x222), (.ref b294)]))
            have F347 : Exa Z T310.heap x222 "com/example/treeloom/treeloom/xdm/Node" := ((((q226.ext E294).keep K299).ext E305).keep K310)
            have ne348 : x222 ≠ b294 := Nat.ne_of_lt (Nat.lt_of_lt_of_le q226.lt (Nat.le_of_eq g294.symm))
            have ne349 : x222 ≠ b305 := Nat.ne_of_lt (Nat.lt_of_lt_of_le (Nat.lt_of_lt_of_le q226.lt (Nat.le_trans E294.1 K299.1)) (Nat.le_of_eq g305.symm))
            have F350 : Fld Z T310.heap x222 "com/example/treeloom/treeloom/xdm/Node" "tree" "Lcom/example/treeloom/treeloom/xdm/Tree;" (.ref b209) := ((((q227.ext E294).keep K299 (ninS ne348 nin0)).ext E305).keep K310 (ninS ne349 nin0))
            have F351 : Fld Z T310.heap x222 "com/example/treeloom/treeloom/xdm/Node" "index" "I" (.int (0 : Int32)) := ((((q228.ext E294).keep K299 (ninS ne348 nin0)).ext E305).keep K310 (ninS ne349 nin0))
            obtain ⟨cq346, kq346, q346a, q346b, q346c⟩ := isOf hZ e345 F317
            obtain ⟨_, _, ⟨T346, L346, k346, n346⟩, -, X346, ⟨Lc346, hQ346, l346, y346, z346⟩, st346⟩ := X345.virtualBack hx (y := (⟨"com/example/treeloom/treeloom/xdm/Node", "equals", "(Ljava/lang/Object;)Z"⟩ : MethodName)) (z := (⟨"com/example/treeloom/treeloom/xdm/Node", "equals", "(Ljava/lang/Object;)Z"⟩ : MethodName)) hown (mvT hZ (hw _ (List.mem_of_getElem? (i := 48) rfl))) (mvT hZ (hw _ (List.mem_of_getElem? (i := 49) rfl))) (notFace_of_selects (args := #[]) (mvT hZ (hw _ (List.mem_of_getElem? (i := 51) rfl)))) (mvT hZ (hw _ (List.mem_of_getElem? (i := 51) rfl))) (mvT hZ (hw _ (List.mem_of_getElem? (i := 50) rfl))) (by decide) (backOf (W := 0) (own_rm_eqO l Z a0 hw [] b294 x222 b186 b209 p3 (0 : Int32) T310.heap n0 Zs315 F347 F319 F320 F350 F351) hZ (hw _ (List.mem_of_getElem? (i := 52) rfl)) (hw _ (List.mem_of_getElem? (i := 35) rfl)) (by decide) (by decide)) q346a q346c (g := (mkF m 267 #[.val (.long p1), .second, .val (.long p2), .second, .val (.int p3), .val (.int p4), .val (.int p5), .val (.ref b186), .val (.ref b209), .val (.int (0 : Int32)), .val (.int p3), .val (.int ((p5 >>> ((2 : Int32) &&& 31)) &&& (3 : Int32))), .val (.ref b209), .val (.ref b294), .val (.ref b305), .val (.int (if b186 = b186 then (if p3 = p3 then (1 : Int32) else 0) else 0)), .val (.int (0 : Int32))] [(.ref x222), (.ref b294)])) rfl (by rw [hml]; rfl) (Steps.refl _) (argsL := [(.ref x222)]) (rest := []) (lenOf own_pd4 rfl) rfl (by show 2 * 0 + _ ≤ _; exact Nat.le_of_eq rfl) (hb hby at_267) (fun _ _ => ⟨rfl, e345, (by decide : 18 + 0 ≤ _), (by decide : 220 + 0 ≤ _)⟩)
            dsimp only [Pt.U, Pt.locs, Pt.cells, Pt.slots] at X346 l346 y346 z346 st346 hQ346
            subst l346 y346 z346
            obtain ⟨N346q, rfl, eh346⟩ := hQ346
            have N352 := Fr.app N321 N346q
            refine own_tr st346 ?_
            show own_Go p e below s _ _ _ (T346.setTop (mkF m 270 #[.val (.long p1), .second, .val (.long p2), .second, .val (.int p3), .val (.int p4), .val (.int p5), .val (.ref b186), .val (.ref b209), .val (.int (0 : Int32)), .val (.int p3), .val (.int ((p5 >>> ((2 : Int32) &&& 31)) &&& (3 : Int32))), .val (.ref b209), .val (.ref b294), .val (.ref b305), .val (.int (if b186 = b186 then (if p3 = p3 then (1 : Int32) else 0) else 0)), .val (.int (0 : Int32))] [(.int (if b186 = b209 then (if p3 = (0 : Int32) then (1 : Int32) else 0) else 0))]))
            refine own_st (fun _ k => XS.iload X346.here hx rfl (hb hby at_270) rfl k) ?_
            show own_Go p e below s _ _ _ (T346.setTop (mkF m 272 #[.val (.long p1), .second, .val (.long p2), .second, .val (.int p3), .val (.int p4), .val (.int p5), .val (.ref b186), .val (.ref b209), .val (.int (0 : Int32)), .val (.int p3), .val (.int ((p5 >>> ((2 : Int32) &&& 31)) &&& (3 : Int32))), .val (.ref b209), .val (.ref b294), .val (.ref b305), .val (.int (if b186 = b186 then (if p3 = p3 then (1 : Int32) else 0) else 0)), .val (.int (0 : Int32))] [(.int (0 : Int32)), (.int (if b186 = b209 then (if p3 = (0 : Int32) then (1 : Int32) else 0) else 0))]))
            have ne353 : b186 ≠ b209 := Nat.ne_of_lt (Nat.lt_of_lt_of_le (Nat.lt_of_lt_of_le A186.lt K198.1) (Nat.le_of_eq g209.symm))
            refine own_st (fun _ k => XS.icmpNo X346.here hx rfl (hb hby at_272) rfl (XT.ii_ne_f (by simp [ne353, ne353.symm])) k) ?_
            show own_Go p e below s _ _ _ (T346.setTop (mkF m 275 #[.val (.long p1), .second, .val (.long p2), .second, .val (.int p3), .val (.int p4), .val (.int p5), .val (.ref b186), .val (.ref b209), .val (.int (0 : Int32)), .val (.int p3), .val (.int ((p5 >>> ((2 : Int32) &&& 31)) &&& (3 : Int32))), .val (.ref b209), .val (.ref b294), .val (.ref b305), .val (.int (if b186 = b186 then (if p3 = p3 then (1 : Int32) else 0) else 0)), .val (.int (0 : Int32))] []))
            refine own_st (fun _ k => XT.iconstV X346.here hx rfl (1 : Int32) (hb hby at_275) (by decide) k) ?_
            show own_Go p e below s _ _ _ (T346.setTop (mkF m 276 #[.val (.long p1), .second, .val (.long p2), .second, .val (.int p3), .val (.int p4), .val (.int p5), .val (.ref b186), .val (.ref b209), .val (.int (0 : Int32)), .val (.int p3), .val (.int ((p5 >>> ((2 : Int32) &&& 31)) &&& (3 : Int32))), .val (.ref b209), .val (.ref b294), .val (.ref b305), .val (.int (if b186 = b186 then (if p3 = p3 then (1 : Int32) else 0) else 0)), .val (.int (0 : Int32))] [(.int (1 : Int32))]))
            refine own_st (fun _ k => XS.goto X346.here hx rfl (pc0 := 276) (pc' := 280) rfl (hb hby at_276) (by decide) (by decide) k) ?_
            show own_Go p e below s _ _ _ (T346.setTop (mkF m 280 #[.val (.long p1), .second, .val (.long p2), .second, .val (.int p3), .val (.int p4), .val (.int p5), .val (.ref b186), .val (.ref b209), .val (.int (0 : Int32)), .val (.int p3), .val (.int ((p5 >>> ((2 : Int32) &&& 31)) &&& (3 : Int32))), .val (.ref b209), .val (.ref b294), .val (.ref b305), .val (.int (if b186 = b186 then (if p3 = p3 then (1 : Int32) else 0) else 0)), .val (.int (0 : Int32))] [(.int (1 : Int32))]))
            refine own_st (fun _ k => XS.istore X346.here hx rfl (hb hby at_280) rfl (l' := #[.val (.long p1), .second, .val (.long p2), .second, .val (.int p3), .val (.int p4), .val (.int p5), .val (.ref b186), .val (.ref b209), .val (.int (0 : Int32)), .val (.int p3), .val (.int ((p5 >>> ((2 : Int32) &&& 31)) &&& (3 : Int32))), .val (.ref b209), .val (.ref b294), .val (.ref b305), .val (.int (1 : Int32)), .val (.int (0 : Int32))]) rfl k) ?_
            show own_Go p e below s _ _ _ (T346.setTop (mkF m 282 #[.val (.long p1), .second, .val (.long p2), .second, .val (.int p3), .val (.int p4), .val (.int p5), .val (.ref b186), .val (.ref b209), .val (.int (0 : Int32)), .val (.int p3), .val (.int ((p5 >>> ((2 : Int32) &&& 31)) &&& (3 : Int32))), .val (.ref b209), .val (.ref b294), .val (.ref b305), .val (.int (1 : Int32)), .val (.int (0 : Int32))] []))
            refine own_st (fun _ k => XS.iload X346.here hx rfl (hb hby at_282) rfl k) ?_
            show own_Go p e below s _ _ _ (T346.setTop (mkF m 284 #[.val (.long p1), .second, .val (.long p2), .second, .val (.int p3), .val (.int p4), .val (.int p5), .val (.ref b186), .val (.ref b209), .val (.int (0 : Int32)), .val (.int p3), .val (.int ((p5 >>> ((2 : Int32) &&& 31)) &&& (3 : Int32))), .val (.ref b209), .val (.ref b294), .val (.ref b305), .val (.int (1 : Int32)), .val (.int (0 : Int32))] [(.int (1 : Int32))]))
            refine own_retN X346 hx hlk Bd.returns (t := .boolean) (z' := (1 : Int32)) (by simp) (by decide) (hb hby at_284) (by decide) (by decide) ?_
            rw [eh346]
            exact ⟨N352, rfl⟩
  · refine own_st (fun _ k => XS.ifNo X221.here hx rfl (hb hby at_26) rfl (XT.i0_eq_f hc232) k) ?_
    show own_Go p e below s _ _ _ (T221.setTop (mkF m 29 #[.val (.long p1), .second, .val (.long p2), .second, .val (.int p3), .val (.int p4), .val (.int p5), .val (.ref b186), .val (.ref b209), .unset, .unset, .unset, .unset, .unset, .unset, .unset, .unset] []))
    refine own_st (fun _ k => XT.iconstV X221.here hx rfl (1 : Int32) (hb hby at_29) (by decide) k) ?_
    show own_Go p e below s _ _ _ (T221.setTop (mkF m 30 #[.val (.long p1), .second, .val (.long p2), .second, .val (.int p3), .val (.int p4), .val (.int p5), .val (.ref b186), .val (.ref b209), .unset, .unset, .unset, .unset, .unset, .unset, .unset, .unset] [(.int (1 : Int32))]))
    refine own_st (fun _ k => XS.goto X221.here hx rfl (pc0 := 30) (pc' := 34) rfl (hb hby at_30) (by decide) (by decide) k) ?_
    show own_Go p e below s _ _ _ (T221.setTop (mkF m 34 #[.val (.long p1), .second, .val (.long p2), .second, .val (.int p3), .val (.int p4), .val (.int p5), .val (.ref b186), .val (.ref b209), .unset, .unset, .unset, .unset, .unset, .unset, .unset, .unset] [(.int (1 : Int32))]))
    refine own_st (fun _ k => XS.istore X221.here hx rfl (hb hby at_34) rfl (l' := #[.val (.long p1), .second, .val (.long p2), .second, .val (.int p3), .val (.int p4), .val (.int p5), .val (.ref b186), .val (.ref b209), .val (.int (1 : Int32)), .unset, .unset, .unset, .unset, .unset, .unset, .unset]) rfl k) ?_
    show own_Go p e below s _ _ _ (T221.setTop (mkF m 36 #[.val (.long p1), .second, .val (.long p2), .second, .val (.int p3), .val (.int p4), .val (.int p5), .val (.ref b186), .val (.ref b209), .val (.int (1 : Int32)), .unset, .unset, .unset, .unset, .unset, .unset, .unset] []))
    refine own_st (fun _ k => XS.iload X221.here hx rfl (hb hby at_36) rfl k) ?_
    show own_Go p e below s _ _ _ (T221.setTop (mkF m 38 #[.val (.long p1), .second, .val (.long p2), .second, .val (.int p3), .val (.int p4), .val (.int p5), .val (.ref b186), .val (.ref b209), .val (.int (1 : Int32)), .unset, .unset, .unset, .unset, .unset, .unset, .unset] [(.int p5)]))
    refine own_st (fun _ k => XT.iconstV X221.here hx rfl (1 : Int32) (hb hby at_38) (by decide) k) ?_
    show own_Go p e below s _ _ _ (T221.setTop (mkF m 39 #[.val (.long p1), .second, .val (.long p2), .second, .val (.int p3), .val (.int p4), .val (.int p5), .val (.ref b186), .val (.ref b209), .val (.int (1 : Int32)), .unset, .unset, .unset, .unset, .unset, .unset, .unset] [(.int (1 : Int32)), (.int p5)]))
    refine own_st (fun _ k => XT.ishr X221.here hx rfl (hb hby at_39) rfl k) ?_
    show own_Go p e below s _ _ _ (T221.setTop (mkF m 40 #[.val (.long p1), .second, .val (.long p2), .second, .val (.int p3), .val (.int p4), .val (.int p5), .val (.ref b186), .val (.ref b209), .val (.int (1 : Int32)), .unset, .unset, .unset, .unset, .unset, .unset, .unset] [(.int (p5 >>> ((1 : Int32) &&& 31)))]))
    refine own_st (fun _ k => XT.iconstV X221.here hx rfl (1 : Int32) (hb hby at_40) (by decide) k) ?_
    show own_Go p e below s _ _ _ (T221.setTop (mkF m 41 #[.val (.long p1), .second, .val (.long p2), .second, .val (.int p3), .val (.int p4), .val (.int p5), .val (.ref b186), .val (.ref b209), .val (.int (1 : Int32)), .unset, .unset, .unset, .unset, .unset, .unset, .unset] [(.int (1 : Int32)), (.int (p5 >>> ((1 : Int32) &&& 31)))]))
    refine own_st (fun _ k => XS.iand X221.here hx rfl (hb hby at_41) rfl k) ?_
    show own_Go p e below s _ _ _ (T221.setTop (mkF m 42 #[.val (.long p1), .second, .val (.long p2), .second, .val (.int p3), .val (.int p4), .val (.int p5), .val (.ref b186), .val (.ref b209), .val (.int (1 : Int32)), .unset, .unset, .unset, .unset, .unset, .unset, .unset] [(.int ((p5 >>> ((1 : Int32) &&& 31)) &&& (1 : Int32)))]))
    by_cases hc354 : ((p5 >>> ((1 : Int32) &&& 31)) &&& (1 : Int32)) = 0
    · refine own_st (fun _ k => XS.ifYes X221.here hx rfl (pc0 := 42) (pc' := 50) rfl (hb hby at_42) rfl (XT.i0_eq_t hc354) (by decide) (by decide) k) ?_
      show own_Go p e below s _ _ _ (T221.setTop (mkF m 50 #[.val (.long p1), .second, .val (.long p2), .second, .val (.int p3), .val (.int p4), .val (.int p5), .val (.ref b186), .val (.ref b209), .val (.int (1 : Int32)), .unset, .unset, .unset, .unset, .unset, .unset, .unset] []))
      refine own_st (fun _ k => XS.iload X221.here hx rfl (hb hby at_50) rfl k) ?_
      show own_Go p e below s _ _ _ (T221.setTop (mkF m 52 #[.val (.long p1), .second, .val (.long p2), .second, .val (.int p3), .val (.int p4), .val (.int p5), .val (.ref b186), .val (.ref b209), .val (.int (1 : Int32)), .unset, .unset, .unset, .unset, .unset, .unset, .unset] [(.int p4)]))
      refine own_st (fun _ k => XS.istore X221.here hx rfl (hb hby at_52) rfl (l' := #[.val (.long p1), .second, .val (.long p2), .second, .val (.int p3), .val (.int p4), .val (.int p5), .val (.ref b186), .val (.ref b209), .val (.int (1 : Int32)), .val (.int p4), .unset, .unset, .unset, .unset, .unset, .unset]) rfl k) ?_
      show own_Go p e below s _ _ _ (T221.setTop (mkF m 54 #[.val (.long p1), .second, .val (.long p2), .second, .val (.int p3), .val (.int p4), .val (.int p5), .val (.ref b186), .val (.ref b209), .val (.int (1 : Int32)), .val (.int p4), .unset, .unset, .unset, .unset, .unset, .unset] []))
      refine own_st (fun _ k => XS.iload X221.here hx rfl (hb hby at_54) rfl k) ?_
      show own_Go p e below s _ _ _ (T221.setTop (mkF m 56 #[.val (.long p1), .second, .val (.long p2), .second, .val (.int p3), .val (.int p4), .val (.int p5), .val (.ref b186), .val (.ref b209), .val (.int (1 : Int32)), .val (.int p4), .unset, .unset, .unset, .unset, .unset, .unset] [(.int p5)]))
      refine own_st (fun _ k => XT.iconstV X221.here hx rfl (2 : Int32) (hb hby at_56) (by decide) k) ?_
      show own_Go p e below s _ _ _ (T221.setTop (mkF m 57 #[.val (.long p1), .second, .val (.long p2), .second, .val (.int p3), .val (.int p4), .val (.int p5), .val (.ref b186), .val (.ref b209), .val (.int (1 : Int32)), .val (.int p4), .unset, .unset, .unset, .unset, .unset, .unset] [(.int (2 : Int32)), (.int p5)]))
      refine own_st (fun _ k => XT.ishr X221.here hx rfl (hb hby at_57) rfl k) ?_
      show own_Go p e below s _ _ _ (T221.setTop (mkF m 58 #[.val (.long p1), .second, .val (.long p2), .second, .val (.int p3), .val (.int p4), .val (.int p5), .val (.ref b186), .val (.ref b209), .val (.int (1 : Int32)), .val (.int p4), .unset, .unset, .unset, .unset, .unset, .unset] [(.int (p5 >>> ((2 : Int32) &&& 31)))]))
      refine own_st (fun _ k => XT.iconstV X221.here hx rfl (3 : Int32) (hb hby at_58) (by decide) k) ?_
      show own_Go p e below s _ _ _ (T221.setTop (mkF m 59 #[.val (.long p1), .second, .val (.long p2), .second, .val (.int p3), .val (.int p4), .val (.int p5), .val (.ref b186), .val (.ref b209), .val (.int (1 : Int32)), .val (.int p4), .unset, .unset, .unset, .unset, .unset, .unset] [(.int (3 : Int32)), (.int (p5 >>> ((2 : Int32) &&& 31)))]))
      refine own_st (fun _ k => XS.iand X221.here hx rfl (hb hby at_59) rfl k) ?_
      show own_Go p e below s _ _ _ (T221.setTop (mkF m 60 #[.val (.long p1), .second, .val (.long p2), .second, .val (.int p3), .val (.int p4), .val (.int p5), .val (.ref b186), .val (.ref b209), .val (.int (1 : Int32)), .val (.int p4), .unset, .unset, .unset, .unset, .unset, .unset] [(.int ((p5 >>> ((2 : Int32) &&& 31)) &&& (3 : Int32)))]))
      refine own_st (fun _ k => XS.istore X221.here hx rfl (hb hby at_60) rfl (l' := #[.val (.long p1), .second, .val (.long p2), .second, .val (.int p3), .val (.int p4), .val (.int p5), .val (.ref b186), .val (.ref b209), .val (.int (1 : Int32)), .val (.int p4), .val (.int ((p5 >>> ((2 : Int32) &&& 31)) &&& (3 : Int32))), .unset, .unset, .unset, .unset, .unset]) rfl k) ?_
      show own_Go p e below s _ _ _ (T221.setTop (mkF m 62 #[.val (.long p1), .second, .val (.long p2), .second, .val (.int p3), .val (.int p4), .val (.int p5), .val (.ref b186), .val (.ref b209), .val (.int (1 : Int32)), .val (.int p4), .val (.int ((p5 >>> ((2 : Int32) &&& 31)) &&& (3 : Int32))), .unset, .unset, .unset, .unset, .unset] []))
      refine own_st (fun _ k => XS.iload X221.here hx rfl (hb hby at_62) rfl k) ?_
      show own_Go p e below s _ _ _ (T221.setTop (mkF m 64 #[.val (.long p1), .second, .val (.long p2), .second, .val (.int p3), .val (.int p4), .val (.int p5), .val (.ref b186), .val (.ref b209), .val (.int (1 : Int32)), .val (.int p4), .val (.int ((p5 >>> ((2 : Int32) &&& 31)) &&& (3 : Int32))), .unset, .unset, .unset, .unset, .unset] [(.int (1 : Int32))]))
      refine own_st (fun _ k => XS.ifNo X221.here hx rfl (hb hby at_64) rfl (XT.i0_eq_f (by decide)) k) ?_
      show own_Go p e below s _ _ _ (T221.setTop (mkF m 67 #[.val (.long p1), .second, .val (.long p2), .second, .val (.int p3), .val (.int p4), .val (.int p5), .val (.ref b186), .val (.ref b209), .val (.int (1 : Int32)), .val (.int p4), .val (.int ((p5 >>> ((2 : Int32) &&& 31)) &&& (3 : Int32))), .unset, .unset, .unset, .unset, .unset] []))
      refine own_st (fun _ k => XS.aload X221.here hx rfl (hb hby at_67) rfl rfl k) ?_
      show own_Go p e below s _ _ _ (T221.setTop (mkF m 69 #[.val (.long p1), .second, .val (.long p2), .second, .val (.int p3), .val (.int p4), .val (.int p5), .val (.ref b186), .val (.ref b209), .val (.int (1 : Int32)), .val (.int p4), .val (.int ((p5 >>> ((2 : Int32) &&& 31)) &&& (3 : Int32))), .unset, .unset, .unset, .unset, .unset] [(.ref b186)]))
      refine own_st (fun _ k => XS.goto X221.here hx rfl (pc0 := 69) (pc' := 74) rfl (hb hby at_69) (by decide) (by decide) k) ?_
      show own_Go p e below s _ _ _ (T221.setTop (mkF m 74 #[.val (.long p1), .second, .val (.long p2), .second, .val (.int p3), .val (.int p4), .val (.int p5), .val (.ref b186), .val (.ref b209), .val (.int (1 : Int32)), .val (.int p4), .val (.int ((p5 >>> ((2 : Int32) &&& 31)) &&& (3 : Int32))), .unset, .unset, .unset, .unset, .unset] [(.ref b186)]))
      refine own_st (fun _ k => XS.astore X221.here hx rfl (hb hby at_74) rfl rfl (l' := #[.val (.long p1), .second, .val (.long p2), .second, .val (.int p3), .val (.int p4), .val (.int p5), .val (.ref b186), .val (.ref b209), .val (.int (1 : Int32)), .val (.int p4), .val (.int ((p5 >>> ((2 : Int32) &&& 31)) &&& (3 : Int32))), .val (.ref b186), .unset, .unset, .unset, .unset]) rfl k) ?_
      show own_Go p e below s _ _ _ (T221.setTop (mkF m 76 #[.val (.long p1), .second, .val (.long p2), .second, .val (.int p3), .val (.int p4), .val (.int p5), .val (.ref b186), .val (.ref b209), .val (.int (1 : Int32)), .val (.int p4), .val (.int ((p5 >>> ((2 : Int32) &&& 31)) &&& (3 : Int32))), .val (.ref b186), .unset, .unset, .unset, .unset] []))
      obtain ⟨T355, h355, X355, e355, E355, A355, D355, -, st355⟩ := newO X221 hx hZ hown (hw _ (List.mem_of_getElem? (i := 46) rfl)) (hw _ (List.mem_of_getElem? (i := 34) rfl)) (hw _ (List.mem_of_getElem? (i := 35) rfl)) rfl (g := (mkF m 76 #[.val (.long p1), .second, .val (.long p2), .second, .val (.int p3), .val (.int p4), .val (.int p5), .val (.ref b186), .val (.ref b209), .val (.int (1 : Int32)), .val (.int p4), .val (.int ((p5 >>> ((2 : Int32) &&& 31)) &&& (3 : Int32))), .val (.ref b186), .unset, .unset, .unset, .unset] [])) rfl (hb hby at_76) (by decide) (by decide)
      obtain ⟨b355, g355⟩ : ∃ z, z = T221.heap.size := ⟨_, rfl⟩
      rw [← g355] at A355 D355 st355
      refine own_st st355 ?_
      have Zs356 : n0 ≤ h355.size := Nat.le_trans Zs230 E355.1
      have g357 : n0 ≤ b355 := Nat.le_trans Zs230 (Nat.le_of_eq g355.symm)
      have F358 : Fld Z h355 b355 "com/example/treeloom/treeloom/xdm/Node" "tree" "Lcom/example/treeloom/treeloom/xdm/Tree;" .null := D355 (Or.inr (hw _ (List.mem_of_getElem? (i := 41) rfl))) (ty := (.object "com/example/treeloom/treeloom/xdm/Tree")) (by decide)
      have F359 : Fld Z h355 b355 "com/example/treeloom/treeloom/xdm/Node" "index" "I" (.int (0 : Int32)) := D355 (Or.inr (hw _ (List.mem_of_getElem? (i := 43) rfl))) (ty := .int) (by decide)
      show own_Go p e below s _ _ _ (T355.setTop (mkF m 79 #[.val (.long p1), .second, .val (.long p2), .second, .val (.int p3), .val (.int p4), .val (.int p5), .val (.ref b186), .val (.ref b209), .val (.int (1 : Int32)), .val (.int p4), .val (.int ((p5 >>> ((2 : Int32) &&& 31)) &&& (3 : Int32))), .val (.ref b186), .unset, .unset, .unset, .unset] [(.ref b355)]))
      refine own_st (fun _ k => XS.dup X355.here hx rfl (hb hby at_79) rfl rfl k) ?_
      show own_Go p e below s _ _ _ (T355.setTop (mkF m 80 #[.val (.long p1), .second, .val (.long p2), .second, .val (.int p3), .val (.int p4), .val (.int p5), .val (.ref b186), .val (.ref b209), .val (.int (1 : Int32)), .val (.int p4), .val (.int ((p5 >>> ((2 : Int32) &&& 31)) &&& (3 : Int32))), .val (.ref b186), .unset, .unset, .unset, .unset] [(.ref b355), (.ref b355)]))
      refine own_st (fun _ k => XS.aload X355.here hx rfl (hb hby at_80) rfl rfl k) ?_
      show own_Go p e below s _ _ _ (T355.setTop (mkF m 82 #[.val (.long p1), .second, .val (.long p2), .second, .val (.int p3), .val (.int p4), .val (.int p5), .val (.ref b186), .val (.ref b209), .val (.int (1 : Int32)), .val (.int p4), .val (.int ((p5 >>> ((2 : Int32) &&& 31)) &&& (3 : Int32))), .val (.ref b186), .unset, .unset, .unset, .unset] [(.ref b186), (.ref b355), (.ref b355)]))
      refine own_st (fun _ k => XS.iload X355.here hx rfl (hb hby at_82) rfl k) ?_
      show own_Go p e below s _ _ _ (T355.setTop (mkF m 84 #[.val (.long p1), .second, .val (.long p2), .second, .val (.int p3), .val (.int p4), .val (.int p5), .val (.ref b186), .val (.ref b209), .val (.int (1 : Int32)), .val (.int p4), .val (.int ((p5 >>> ((2 : Int32) &&& 31)) &&& (3 : Int32))), .val (.ref b186), .unset, .unset, .unset, .unset] [(.int p3), (.ref b186), (.ref b355), (.ref b355)]))
      obtain ⟨_, _, ⟨T360, L360, k360, n360⟩, -, X360, ⟨Lc360, hQ360, l360, y360, z360⟩, st360⟩ := X355.specialBack hx (y := (⟨"com/example/treeloom/treeloom/xdm/Node", "<init>", "(Lcom/example/treeloom/treeloom/xdm/Tree;I)V"⟩ : MethodName)) rfl hown (mvT hZ (hw _ (List.mem_of_getElem? (i := 47) rfl))) (mvT hZ (hw _ (List.mem_of_getElem? (i := 37) rfl))) (mvT hZ (hw _ (List.mem_of_getElem? (i := 38) rfl))) (by decide) (backOf (W := 1) (own_rm_node l Z a0 hw [] b355 b186 p3 h355 n0 Zs356 A355 F358 F359 g357) hZ (hw _ (List.mem_of_getElem? (i := 38) rfl)) (hw _ (List.mem_of_getElem? (i := 35) rfl)) (by decide) (by decide)) (g := (mkF m 84 #[.val (.long p1), .second, .val (.long p2), .second, .val (.int p3), .val (.int p4), .val (.int p5), .val (.ref b186), .val (.ref b209), .val (.int (1 : Int32)), .val (.int p4), .val (.int ((p5 >>> ((2 : Int32) &&& 31)) &&& (3 : Int32))), .val (.ref b186), .unset, .unset, .unset, .unset] [(.int p3), (.ref b186), (.ref b355), (.ref b355)])) rfl (by rw [hml]; rfl) (Steps.refl _) (a := b355) (argsL := [(.ref b186), (.int p3)]) (rest := [(.ref b355)]) (lenOf own_pd2 rfl) rfl (by show 2 * 0 + _ ≤ _; exact Nat.le_of_eq rfl) (hb hby at_84) (fun _ _ => ⟨rfl, e355, (by decide : 17 + 0 ≤ _), (by decide : 218 + 0 ≤ _)⟩)
      dsimp only [Pt.U, Pt.locs, Pt.cells, Pt.slots] at X360 l360 y360 z360 st360 hQ360
      subst l360 y360 z360
      obtain ⟨N360q, rfl, K360, q361, q362, q363⟩ := hQ360
      have N364 := Fr.app N229 N360q
      refine own_tr st360 ?_
      have Zs365 : n0 ≤ T360.heap.size := Nat.le_trans Zs356 K360.1
      show own_Go p e below s _ _ _ (T360.setTop (mkF m 87 #[.val (.long p1), .second, .val (.long p2), .second, .val (.int p3), .val (.int p4), .val (.int p5), .val (.ref b186), .val (.ref b209), .val (.int (1 : Int32)), .val (.int p4), .val (.int ((p5 >>> ((2 : Int32) &&& 31)) &&& (3 : Int32))), .val (.ref b186), .unset, .unset, .unset, .unset] [(.ref b355)]))
      refine own_st (fun _ k => XS.astore X360.here hx rfl (hb hby at_87) rfl rfl (l' := #[.val (.long p1), .second, .val (.long p2), .second, .val (.int p3), .val (.int p4), .val (.int p5), .val (.ref b186), .val (.ref b209), .val (.int (1 : Int32)), .val (.int p4), .val (.int ((p5 >>> ((2 : Int32) &&& 31)) &&& (3 : Int32))), .val (.ref b186), .val (.ref b355), .unset, .unset, .unset]) rfl k) ?_
      show own_Go p e below s _ _ _ (T360.setTop (mkF m 89 #[.val (.long p1), .second, .val (.long p2), .second, .val (.int p3), .val (.int p4), .val (.int p5), .val (.ref b186), .val (.ref b209), .val (.int (1 : Int32)), .val (.int p4), .val (.int ((p5 >>> ((2 : Int32) &&& 31)) &&& (3 : Int32))), .val (.ref b186), .val (.ref b355), .unset, .unset, .unset] []))
      obtain ⟨T366, h366, X366, e366, E366, A366, D366, -, st366⟩ := newO X360 hx hZ hown (hw _ (List.mem_of_getElem? (i := 46) rfl)) (hw _ (List.mem_of_getElem? (i := 34) rfl)) (hw _ (List.mem_of_getElem? (i := 35) rfl)) rfl (g := (mkF m 89 #[.val (.long p1), .second, .val (.long p2), .second, .val (.int p3), .val (.int p4), .val (.int p5), .val (.ref b186), .val (.ref b209), .val (.int (1 : Int32)), .val (.int p4), .val (.int ((p5 >>> ((2 : Int32) &&& 31)) &&& (3 : Int32))), .val (.ref b186), .val (.ref b355), .unset, .unset, .unset] [])) rfl (hb hby at_89) (by decide) (by decide)
      obtain ⟨b366, g366⟩ : ∃ z, z = T360.heap.size := ⟨_, rfl⟩
      rw [← g366] at A366 D366 st366
      refine own_st st366 ?_
      have Zs367 : n0 ≤ h366.size := Nat.le_trans Zs365 E366.1
      have g368 : n0 ≤ b366 := Nat.le_trans Zs365 (Nat.le_of_eq g366.symm)
      have F369 : Fld Z h366 b366 "com/example/treeloom/treeloom/xdm/Node" "tree" "Lcom/example/treeloom/treeloom/xdm/Tree;" .null := D366 (Or.inr (hw _ (List.mem_of_getElem? (i := 41) rfl))) (ty := (.object "com/example/treeloom/treeloom/xdm/Tree")) (by decide)
      have F370 : Fld Z h366 b366 "com/example/treeloom/treeloom/xdm/Node" "index" "I" (.int (0 : Int32)) := D366 (Or.inr (hw _ (List.mem_of_getElem? (i := 43) rfl))) (ty := .int) (by decide)
      show own_Go p e below s _ _ _ (T366.setTop (mkF m 92 #[.val (.long p1), .second, .val (.long p2), .second, .val (.int p3), .val (.int p4), .val (.int p5), .val (.ref b186), .val (.ref b209), .val (.int (1 : Int32)), .val (.int p4), .val (.int ((p5 >>> ((2 : Int32) &&& 31)) &&& (3 : Int32))), .val (.ref b186), .val (.ref b355), .unset, .unset, .unset] [(.ref b366)]))
      refine own_st (fun _ k => XS.dup X366.here hx rfl (hb hby at_92) rfl rfl k) ?_
      show own_Go p e below s _ _ _ (T366.setTop (mkF m 93 #[.val (.long p1), .second, .val (.long p2), .second, .val (.int p3), .val (.int p4), .val (.int p5), .val (.ref b186), .val (.ref b209), .val (.int (1 : Int32)), .val (.int p4), .val (.int ((p5 >>> ((2 : Int32) &&& 31)) &&& (3 : Int32))), .val (.ref b186), .val (.ref b355), .unset, .unset, .unset] [(.ref b366), (.ref b366)]))
      refine own_st (fun _ k => XS.aload X366.here hx rfl (hb hby at_93) rfl rfl k) ?_
      show own_Go p e below s _ _ _ (T366.setTop (mkF m 95 #[.val (.long p1), .second, .val (.long p2), .second, .val (.int p3), .val (.int p4), .val (.int p5), .val (.ref b186), .val (.ref b209), .val (.int (1 : Int32)), .val (.int p4), .val (.int ((p5 >>> ((2 : Int32) &&& 31)) &&& (3 : Int32))), .val (.ref b186), .val (.ref b355), .unset, .unset, .unset] [(.ref b186), (.ref b366), (.ref b366)]))
      refine own_st (fun _ k => XS.iload X366.here hx rfl (hb hby at_95) rfl k) ?_
      show own_Go p e below s _ _ _ (T366.setTop (mkF m 97 #[.val (.long p1), .second, .val (.long p2), .second, .val (.int p3), .val (.int p4), .val (.int p5), .val (.ref b186), .val (.ref b209), .val (.int (1 : Int32)), .val (.int p4), .val (.int ((p5 >>> ((2 : Int32) &&& 31)) &&& (3 : Int32))), .val (.ref b186), .val (.ref b355), .unset, .unset, .unset] [(.int p4), (.ref b186), (.ref b366), (.ref b366)]))
      obtain ⟨_, _, ⟨T371, L371, k371, n371⟩, -, X371, ⟨Lc371, hQ371, l371, y371, z371⟩, st371⟩ := X366.specialBack hx (y := (⟨"com/example/treeloom/treeloom/xdm/Node", "<init>", "(Lcom/example/treeloom/treeloom/xdm/Tree;I)V"⟩ : MethodName)) rfl hown (mvT hZ (hw _ (List.mem_of_getElem? (i := 47) rfl))) (mvT hZ (hw _ (List.mem_of_getElem? (i := 37) rfl))) (mvT hZ (hw _ (List.mem_of_getElem? (i := 38) rfl))) (by decide) (backOf (W := 1) (own_rm_node l Z a0 hw [] b366 b186 p4 h366 n0 Zs367 A366 F369 F370 g368) hZ (hw _ (List.mem_of_getElem? (i := 38) rfl)) (hw _ (List.mem_of_getElem? (i := 35) rfl)) (by decide) (by decide)) (g := (mkF m 97 #[.val (.long p1), .second, .val (.long p2), .second, .val (.int p3), .val (.int p4), .val (.int p5), .val (.ref b186), .val (.ref b209), .val (.int (1 : Int32)), .val (.int p4), .val (.int ((p5 >>> ((2 : Int32) &&& 31)) &&& (3 : Int32))), .val (.ref b186), .val (.ref b355), .unset, .unset, .unset] [(.int p4), (.ref b186), (.ref b366), (.ref b366)])) rfl (by rw [hml]; rfl) (Steps.refl _) (a := b366) (argsL := [(.ref b186), (.int p4)]) (rest := [(.ref b366)]) (lenOf own_pd2 rfl) rfl (by show 2 * 0 + _ ≤ _; exact Nat.le_of_eq rfl) (hb hby at_97) (fun _ _ => ⟨rfl, e366, (by decide : 18 + 0 ≤ _), (by decide : 220 + 0 ≤ _)⟩)
      dsimp only [Pt.U, Pt.locs, Pt.cells, Pt.slots] at X371 l371 y371 z371 st371 hQ371
      subst l371 y371 z371
      obtain ⟨N371q, rfl, K371, q372, q373, q374⟩ := hQ371
      have N375 := Fr.app N364 N371q
      refine own_tr st371 ?_
      have Zs376 : n0 ≤ T371.heap.size := Nat.le_trans Zs367 K371.1
      show own_Go p e below s _ _ _ (T371.setTop (mkF m 100 #[.val (.long p1), .second, .val (.long p2), .second, .val (.int p3), .val (.int p4), .val (.int p5), .val (.ref b186), .val (.ref b209), .val (.int (1 : Int32)), .val (.int p4), .val (.int ((p5 >>> ((2 : Int32) &&& 31)) &&& (3 : Int32))), .val (.ref b186), .val (.ref b355), .unset, .unset, .unset] [(.ref b366)]))
      refine own_st (fun _ k => XS.astore X371.here hx rfl (hb hby at_100) rfl rfl (l' := #[.val (.long p1), .second, .val (.long p2), .second, .val (.int p3), .val (.int p4), .val (.int p5), .val (.ref b186), .val (.ref b209), .val (.int (1 : Int32)), .val (.int p4), .val (.int ((p5 >>> ((2 : Int32) &&& 31)) &&& (3 : Int32))), .val (.ref b186), .val (.ref b355), .val (.ref b366), .unset, .unset]) rfl k) ?_
      show own_Go p e below s _ _ _ (T371.setTop (mkF m 102 #[.val (.long p1), .second, .val (.long p2), .second, .val (.int p3), .val (.int p4), .val (.int p5), .val (.ref b186), .val (.ref b209), .val (.int (1 : Int32)), .val (.int p4), .val (.int ((p5 >>> ((2 : Int32) &&& 31)) &&& (3 : Int32))), .val (.ref b186), .val (.ref b355), .val (.ref b366), .unset, .unset] []))
      refine own_st (fun _ k => XS.aload X371.here hx rfl (hb hby at_102) rfl rfl k) ?_
      show own_Go p e below s _ _ _ (T371.setTop (mkF m 104 #[.val (.long p1), .second, .val (.long p2), .second, .val (.int p3), .val (.int p4), .val (.int p5), .val (.ref b186), .val (.ref b209), .val (.int (1 : Int32)), .val (.int p4), .val (.int ((p5 >>> ((2 : Int32) &&& 31)) &&& (3 : Int32))), .val (.ref b186), .val (.ref b355), .val (.ref b366), .unset, .unset] [(.ref b355)]))
      refine own_st (fun _ k => XS.aload X371.here hx rfl (hb hby at_104) rfl rfl k) ?_
      show own_Go p e below s _ _ _ (T371.setTop (mkF m 106 #[.val (.long p1), .second, .val (.long p2), .second, .val (.int p3), .val (.int p4), .val (.int p5), .val (.ref b186), .val (.ref b209), .val (.int (1 : Int32)), .val (.int p4), .val (.int ((p5 >>> ((2 : Int32) &&& 31)) &&& (3 : Int32))), .val (.ref b186), .val (.ref b355), .val (.ref b366), .unset, .unset] [(.ref b355), (.ref b355)]))
      have F378 : Exa Z T371.heap b355 "com/example/treeloom/treeloom/xdm/Node" := ((q361.ext E366).keep K371)
      have ne379 : b355 ≠ b366 := Nat.ne_of_lt (Nat.lt_of_lt_of_le (Nat.lt_of_lt_of_le A355.lt K360.1) (Nat.le_of_eq g366.symm))
      have F380 : Fld Z T371.heap b355 "com/example/treeloom/treeloom/xdm/Node" "tree" "Lcom/example/treeloom/treeloom/xdm/Tree;" (.ref b186) := ((q362.ext E366).keep K371 (ninS ne379 nin0))
      have F381 : Fld Z T371.heap b355 "com/example/treeloom/treeloom/xdm/Node" "index" "I" (.int p3) := ((q363.ext E366).keep K371 (ninS ne379 nin0))
      obtain ⟨cq377, kq377, q377a, q377b, q377c⟩ := isOf hZ rfl F378
      obtain ⟨_, _, ⟨T377, L377, k377, n377⟩, -, X377, ⟨Lc377, hQ377, l377, y377, z377⟩, st377⟩ := X371.virtualBack hx (y := (⟨"com/example/treeloom/treeloom/xdm/Node", "equals", "(Ljava/lang/Object;)Z"⟩ : MethodName)) (z := (⟨"com/example/treeloom/treeloom/xdm/Node", "equals", "(Ljava/lang/Object;)Z"⟩ : MethodName)) hown (mvT hZ (hw _ (List.mem_of_getElem? (i := 48) rfl))) (mvT hZ (hw _ (List.mem_of_getElem? (i := 49) rfl))) (notFace_of_selects (args := #[]) (mvT hZ (hw _ (List.mem_of_getElem? (i := 51) rfl)))) (mvT hZ (hw _ (List.mem_of_getElem? (i := 51) rfl))) (mvT hZ (hw _ (List.mem_of_getElem? (i := 50) rfl))) (by decide) (backOf (W := 0) (own_rm_eqO l Z a0 hw [] b355 b355 b186 b186 p3 p3 T371.heap n0 Zs376 F378 F380 F381 F380 F381) hZ (hw _ (List.mem_of_getElem? (i := 52) rfl)) (hw _ (List.mem_of_getElem? (i := 35) rfl)) (by decide) (by decide)) q377a q377c (g := (mkF m 106 #[.val (.long p1), .second, .val (.long p2), .second, .val (.int p3), .val (.int p4), .val (.int p5), .val (.ref b186), .val (.ref b209), .val (.int (1 : Int32)), .val (.int p4), .val (.int ((p5 >>> ((2 : Int32) &&& 31)) &&& (3 : Int32))), .val (.ref b186), .val (.ref b355), .val (.ref b366), .unset, .unset] [(.ref b355), (.ref b355)])) rfl (by rw [hml]; rfl) (Steps.refl _) (argsL := [(.ref b355)]) (rest := []) (lenOf own_pd4 rfl) rfl (by show 2 * 0 + _ ≤ _; exact Nat.le_of_eq rfl) (hb hby at_106) (fun _ _ => ⟨rfl, rfl, (by decide : 18 + 0 ≤ _), (by decide : 220 + 0 ≤ _)⟩)
      dsimp only [Pt.U, Pt.locs, Pt.cells, Pt.slots] at X377 l377 y377 z377 st377 hQ377
      subst l377 y377 z377
      obtain ⟨N377q, rfl, eh377⟩ := hQ377
      have N382 := Fr.app N375 N377q
      refine own_tr st377 ?_
      show own_Go p e below s _ _ _ (T377.setTop (mkF m 109 #[.val (.long p1), .second, .val (.long p2), .second, .val (.int p3), .val (.int p4), .val (.int p5), .val (.ref b186), .val (.ref b209), .val (.int (1 : Int32)), .val (.int p4), .val (.int ((p5 >>> ((2 : Int32) &&& 31)) &&& (3 : Int32))), .val (.ref b186), .val (.ref b355), .val (.ref b366), .unset, .unset] [(.int (if b186 = b186 then (if p3 = p3 then (1 : Int32) else 0) else 0))]))
      refine own_st (fun _ k => XS.istore X377.here hx rfl (hb hby at_109) rfl (l' := #[.val (.long p1), .second, .val (.long p2), .second, .val (.int p3), .val (.int p4), .val (.int p5), .val (.ref b186), .val (.ref b209), .val (.int (1 : Int32)), .val (.int p4), .val (.int ((p5 >>> ((2 : Int32) &&& 31)) &&& (3 : Int32))), .val (.ref b186), .val (.ref b355), .val (.ref b366), .val (.int (if b186 = b186 then (if p3 = p3 then (1 : Int32) else 0) else 0)), .unset]) rfl k) ?_
      show own_Go p e below s _ _ _ (T377.setTop (mkF m 111 #[.val (.long p1), .second, .val (.long p2), .second, .val (.int p3), .val (.int p4), .val (.int p5), .val (.ref b186), .val (.ref b209), .val (.int (1 : Int32)), .val (.int p4), .val (.int ((p5 >>> ((2 : Int32) &&& 31)) &&& (3 : Int32))), .val (.ref b186), .val (.ref b355), .val (.ref b366), .val (.int (if b186 = b186 then (if p3 = p3 then (1 : Int32) else 0) else 0)), .unset] []))
      refine own_st (fun _ k => XS.iload X377.here hx rfl (hb hby at_111) rfl k) ?_
      show own_Go p e below s _ _ _ (T377.setTop (mkF m 113 #[.val (.long p1), .second, .val (.long p2), .second, .val (.int p3), .val (.int p4), .val (.int p5), .val (.ref b186), .val (.ref b209), .val (.int (1 : Int32)), .val (.int p4), .val (.int ((p5 >>> ((2 : Int32) &&& 31)) &&& (3 : Int32))), .val (.ref b186), .val (.ref b355), .val (.ref b366), .val (.int (if b186 = b186 then (if p3 = p3 then (1 : Int32) else 0) else 0)), .unset] [(.int ((p5 >>> ((2 : Int32) &&& 31)) &&& (3 : Int32)))]))
      by_cases hc383 : ((p5 >>> ((2 : Int32) &&& 31)) &&& (3 : Int32)) = 0
      · refine own_st (fun _ k => XS.ifNo X377.here hx rfl (hb hby at_113) rfl (XT.i0_ne_f hc383) k) ?_
        show own_Go p e below s _ _ _ (T377.setTop (mkF m 116 #[.val (.long p1), .second, .val (.long p2), .second, .val (.int p3), .val (.int p4), .val (.int p5), .val (.ref b186), .val (.ref b209), .val (.int (1 : Int32)), .val (.int p4), .val (.int ((p5 >>> ((2 : Int32) &&& 31)) &&& (3 : Int32))), .val (.ref b186), .val (.ref b355), .val (.ref b366), .val (.int (if b186 = b186 then (if p3 = p3 then (1 : Int32) else 0) else 0)), .unset] []))
        refine own_st (fun _ k => XS.iload X377.here hx rfl (hb hby at_116) rfl k) ?_
        show own_Go p e below s _ _ _ (T377.setTop (mkF m 118 #[.val (.long p1), .second, .val (.long p2), .second, .val (.int p3), .val (.int p4), .val (.int p5), .val (.ref b186), .val (.ref b209), .val (.int (1 : Int32)), .val (.int p4), .val (.int ((p5 >>> ((2 : Int32) &&& 31)) &&& (3 : Int32))), .val (.ref b186), .val (.ref b355), .val (.ref b366), .val (.int (if b186 = b186 then (if p3 = p3 then (1 : Int32) else 0) else 0)), .unset] [(.int (1 : Int32))]))
        refine own_st (fun _ k => XS.ifNo X377.here hx rfl (hb hby at_118) rfl (XT.i0_eq_f (by decide)) k) ?_
        show own_Go p e below s _ _ _ (T377.setTop (mkF m 121 #[.val (.long p1), .second, .val (.long p2), .second, .val (.int p3), .val (.int p4), .val (.int p5), .val (.ref b186), .val (.ref b209), .val (.int (1 : Int32)), .val (.int p4), .val (.int ((p5 >>> ((2 : Int32) &&& 31)) &&& (3 : Int32))), .val (.ref b186), .val (.ref b355), .val (.ref b366), .val (.int (if b186 = b186 then (if p3 = p3 then (1 : Int32) else 0) else 0)), .unset] []))
        refine own_st (fun _ k => XS.iload X377.here hx rfl (hb hby at_121) rfl k) ?_
        show own_Go p e below s _ _ _ (T377.setTop (mkF m 123 #[.val (.long p1), .second, .val (.long p2), .second, .val (.int p3), .val (.int p4), .val (.int p5), .val (.ref b186), .val (.ref b209), .val (.int (1 : Int32)), .val (.int p4), .val (.int ((p5 >>> ((2 : Int32) &&& 31)) &&& (3 : Int32))), .val (.ref b186), .val (.ref b355), .val (.ref b366), .val (.int (if b186 = b186 then (if p3 = p3 then (1 : Int32) else 0) else 0)), .unset] [(.int p3)]))
        refine own_st (fun _ k => XS.iload X377.here hx rfl (hb hby at_123) rfl k) ?_
        show own_Go p e below s _ _ _ (T377.setTop (mkF m 125 #[.val (.long p1), .second, .val (.long p2), .second, .val (.int p3), .val (.int p4), .val (.int p5), .val (.ref b186), .val (.ref b209), .val (.int (1 : Int32)), .val (.int p4), .val (.int ((p5 >>> ((2 : Int32) &&& 31)) &&& (3 : Int32))), .val (.ref b186), .val (.ref b355), .val (.ref b366), .val (.int (if b186 = b186 then (if p3 = p3 then (1 : Int32) else 0) else 0)), .unset] [(.int p4), (.int p3)]))
        by_cases hc384 : p3 = p4
        · refine own_st (fun _ k => XS.icmpNo X377.here hx rfl (hb hby at_125) rfl (XT.ii_ne_f hc384) k) ?_
          show own_Go p e below s _ _ _ (T377.setTop (mkF m 128 #[.val (.long p1), .second, .val (.long p2), .second, .val (.int p3), .val (.int p4), .val (.int p5), .val (.ref b186), .val (.ref b209), .val (.int (1 : Int32)), .val (.int p4), .val (.int ((p5 >>> ((2 : Int32) &&& 31)) &&& (3 : Int32))), .val (.ref b186), .val (.ref b355), .val (.ref b366), .val (.int (if b186 = b186 then (if p3 = p3 then (1 : Int32) else 0) else 0)), .unset] []))
          refine own_st (fun _ k => XT.iconstV X377.here hx rfl (1 : Int32) (hb hby at_128) (by decide) k) ?_
          show own_Go p e below s _ _ _ (T377.setTop (mkF m 129 #[.val (.long p1), .second, .val (.long p2), .second, .val (.int p3), .val (.int p4), .val (.int p5), .val (.ref b186), .val (.ref b209), .val (.int (1 : Int32)), .val (.int p4), .val (.int ((p5 >>> ((2 : Int32) &&& 31)) &&& (3 : Int32))), .val (.ref b186), .val (.ref b355), .val (.ref b366), .val (.int (if b186 = b186 then (if p3 = p3 then (1 : Int32) else 0) else 0)), .unset] [(.int (1 : Int32))]))
          refine own_st (fun _ k => XS.goto X377.here hx rfl (pc0 := 129) (pc' := 133) rfl (hb hby at_129) (by decide) (by decide) k) ?_
          show own_Go p e below s _ _ _ (T377.setTop (mkF m 133 #[.val (.long p1), .second, .val (.long p2), .second, .val (.int p3), .val (.int p4), .val (.int p5), .val (.ref b186), .val (.ref b209), .val (.int (1 : Int32)), .val (.int p4), .val (.int ((p5 >>> ((2 : Int32) &&& 31)) &&& (3 : Int32))), .val (.ref b186), .val (.ref b355), .val (.ref b366), .val (.int (if b186 = b186 then (if p3 = p3 then (1 : Int32) else 0) else 0)), .unset] [(.int (1 : Int32))]))
          refine own_st (fun _ k => XS.istore X377.here hx rfl (hb hby at_133) rfl (l' := #[.val (.long p1), .second, .val (.long p2), .second, .val (.int p3), .val (.int p4), .val (.int p5), .val (.ref b186), .val (.ref b209), .val (.int (1 : Int32)), .val (.int p4), .val (.int ((p5 >>> ((2 : Int32) &&& 31)) &&& (3 : Int32))), .val (.ref b186), .val (.ref b355), .val (.ref b366), .val (.int (if b186 = b186 then (if p3 = p3 then (1 : Int32) else 0) else 0)), .val (.int (1 : Int32))]) rfl k) ?_
          show own_Go p e below s _ _ _ (T377.setTop (mkF m 135 #[.val (.long p1), .second, .val (.long p2), .second, .val (.int p3), .val (.int p4), .val (.int p5), .val (.ref b186), .val (.ref b209), .val (.int (1 : Int32)), .val (.int p4), .val (.int ((p5 >>> ((2 : Int32) &&& 31)) &&& (3 : Int32))), .val (.ref b186), .val (.ref b355), .val (.ref b366), .val (.int (if b186 = b186 then (if p3 = p3 then (1 : Int32) else 0) else 0)), .val (.int (1 : Int32))] []))
          refine own_st (fun _ k => XS.iload X377.here hx rfl (hb hby at_135) rfl k) ?_
          show own_Go p e below s _ _ _ (T377.setTop (mkF m 137 #[.val (.long p1), .second, .val (.long p2), .second, .val (.int p3), .val (.int p4), .val (.int p5), .val (.ref b186), .val (.ref b209), .val (.int (1 : Int32)), .val (.int p4), .val (.int ((p5 >>> ((2 : Int32) &&& 31)) &&& (3 : Int32))), .val (.ref b186), .val (.ref b355), .val (.ref b366), .val (.int (if b186 = b186 then (if p3 = p3 then (1 : Int32) else 0) else 0)), .val (.int (1 : Int32))] [(.int (if b186 = b186 then (if p3 = p3 then (1 : Int32) else 0) else 0))]))
          refine own_st (fun _ k => XS.ifNo X377.here hx rfl (hb hby at_137) rfl (XT.i0_eq_f (by simp)) k) ?_
          show own_Go p e below s _ _ _ (T377.setTop (mkF m 140 #[.val (.long p1), .second, .val (.long p2), .second, .val (.int p3), .val (.int p4), .val (.int p5), .val (.ref b186), .val (.ref b209), .val (.int (1 : Int32)), .val (.int p4), .val (.int ((p5 >>> ((2 : Int32) &&& 31)) &&& (3 : Int32))), .val (.ref b186), .val (.ref b355), .val (.ref b366), .val (.int (if b186 = b186 then (if p3 = p3 then (1 : Int32) else 0) else 0)), .val (.int (1 : Int32))] []))
          refine own_st (fun _ k => XS.aload X377.here hx rfl (hb hby at_140) rfl rfl k) ?_
          show own_Go p e below s _ _ _ (T377.setTop (mkF m 142 #[.val (.long p1), .second, .val (.long p2), .second, .val (.int p3), .val (.int p4), .val (.int p5), .val (.ref b186), .val (.ref b209), .val (.int (1 : Int32)), .val (.int p4), .val (.int ((p5 >>> ((2 : Int32) &&& 31)) &&& (3 : Int32))), .val (.ref b186), .val (.ref b355), .val (.ref b366), .val (.int (if b186 = b186 then (if p3 = p3 then (1 : Int32) else 0) else 0)), .val (.int (1 : Int32))] [(.ref b355)]))
          refine own_st (fun _ k => XS.aload X377.here hx rfl (hb hby at_142) rfl rfl k) ?_
          show own_Go p e below s _ _ _ (T377.setTop (mkF m 144 #[.val (.long p1), .second, .val (.long p2), .second, .val (.int p3), .val (.int p4), .val (.int p5), .val (.ref b186), .val (.ref b209), .val (.int (1 : Int32)), .val (.int p4), .val (.int ((p5 >>> ((2 : Int32) &&& 31)) &&& (3 : Int32))), .val (.ref b186), .val (.ref b355), .val (.ref b366), .val (.int (if b186 = b186 then (if p3 = p3 then (1 : Int32) else 0) else 0)), .val (.int (1 : Int32))] [(.ref b366), (.ref b355)]))
          obtain ⟨cq385, kq385, q385a, q385b, q385c⟩ := isOf hZ eh377 F378
          obtain ⟨_, _, ⟨T385, L385, k385, n385⟩, -, X385, ⟨Lc385, hQ385, l385, y385, z385⟩, st385⟩ := X377.virtualBack hx (y := (⟨"com/example/treeloom/treeloom/xdm/Node", "equals", "(Ljava/lang/Object;)Z"⟩ : MethodName)) (z := (⟨"com/example/treeloom/treeloom/xdm/Node", "equals", "(Ljava/lang/Object;)Z"⟩ : MethodName)) hown (mvT hZ (hw _ (List.mem_of_getElem? (i := 48) rfl))) (mvT hZ (hw _ (List.mem_of_getElem? (i := 49) rfl))) (notFace_of_selects (args := #[]) (mvT hZ (hw _ (List.mem_of_getElem? (i := 51) rfl)))) (mvT hZ (hw _ (List.mem_of_getElem? (i := 51) rfl))) (mvT hZ (hw _ (List.mem_of_getElem? (i := 50) rfl))) (by decide) (backOf (W := 0) (own_rm_eqO l Z a0 hw [] b355 b366 b186 b186 p3 p4 T371.heap n0 Zs376 q372 F380 F381 q373 q374) hZ (hw _ (List.mem_of_getElem? (i := 52) rfl)) (hw _ (List.mem_of_getElem? (i := 35) rfl)) (by decide) (by decide)) q385a q385c (g := (mkF m 144 #[.val (.long p1), .second, .val (.long p2), .second, .val (.int p3), .val (.int p4), .val (.int p5), .val (.ref b186), .val (.ref b209), .val (.int (1 : Int32)), .val (.int p4), .val (.int ((p5 >>> ((2 : Int32) &&& 31)) &&& (3 : Int32))), .val (.ref b186), .val (.ref b355), .val (.ref b366), .val (.int (if b186 = b186 then (if p3 = p3 then (1 : Int32) else 0) else 0)), .val (.int (1 : Int32))] [(.ref b366), (.ref b355)])) rfl (by rw [hml]; rfl) (Steps.refl _) (argsL := [(.ref b366)]) (rest := []) (lenOf own_pd4 rfl) rfl (by show 2 * 0 + _ ≤ _; exact Nat.le_of_eq rfl) (hb hby at_144) (fun _ _ => ⟨rfl, eh377, (by decide : 18 + 0 ≤ _), (by decide : 220 + 0 ≤ _)⟩)
          dsimp only [Pt.U, Pt.locs, Pt.cells, Pt.slots] at X385 l385 y385 z385 st385 hQ385
          subst l385 y385 z385
          obtain ⟨N385q, rfl, eh385⟩ := hQ385
          have N386 := Fr.app N382 N385q
          refine own_tr st385 ?_
          show own_Go p e below s _ _ _ (T385.setTop (mkF m 147 #[.val (.long p1), .second, .val (.long p2), .second, .val (.int p3), .val (.int p4), .val (.int p5), .val (.ref b186), .val (.ref b209), .val (.int (1 : Int32)), .val (.int p4), .val (.int ((p5 >>> ((2 : Int32) &&& 31)) &&& (3 : Int32))), .val (.ref b186), .val (.ref b355), .val (.ref b366), .val (.int (if b186 = b186 then (if p3 = p3 then (1 : Int32) else 0) else 0)), .val (.int (1 : Int32))] [(.int (if b186 = b186 then (if p3 = p4 then (1 : Int32) else 0) else 0))]))
          refine own_st (fun _ k => XS.iload X385.here hx rfl (hb hby at_147) rfl k) ?_
          show own_Go p e below s _ _ _ (T385.setTop (mkF m 149 #[.val (.long p1), .second, .val (.long p2), .second, .val (.int p3), .val (.int p4), .val (.int p5), .val (.ref b186), .val (.ref b209), .val (.int (1 : Int32)), .val (.int p4), .val (.int ((p5 >>> ((2 : Int32) &&& 31)) &&& (3 : Int32))), .val (.ref b186), .val (.ref b355), .val (.ref b366), .val (.int (if b186 = b186 then (if p3 = p3 then (1 : Int32) else 0) else 0)), .val (.int (1 : Int32))] [(.int (1 : Int32)), (.int (if b186 = b186 then (if p3 = p4 then (1 : Int32) else 0) else 0))]))
          refine own_st (fun _ k => XS.icmpNo X385.here hx rfl (hb hby at_149) rfl (XT.ii_ne_f (by simp [hc384])) k) ?_
          show own_Go p e below s _ _ _ (T385.setTop (mkF m 152 #[.val (.long p1), .second, .val (.long p2), .second, .val (.int p3), .val (.int p4), .val (.int p5), .val (.ref b186), .val (.ref b209), .val (.int (1 : Int32)), .val (.int p4), .val (.int ((p5 >>> ((2 : Int32) &&& 31)) &&& (3 : Int32))), .val (.ref b186), .val (.ref b355), .val (.ref b366), .val (.int (if b186 = b186 then (if p3 = p3 then (1 : Int32) else 0) else 0)), .val (.int (1 : Int32))] []))
          refine own_st (fun _ k => XS.aload X385.here hx rfl (hb hby at_152) rfl rfl k) ?_
          show own_Go p e below s _ _ _ (T385.setTop (mkF m 154 #[.val (.long p1), .second, .val (.long p2), .second, .val (.int p3), .val (.int p4), .val (.int p5), .val (.ref b186), .val (.ref b209), .val (.int (1 : Int32)), .val (.int p4), .val (.int ((p5 >>> ((2 : Int32) &&& 31)) &&& (3 : Int32))), .val (.ref b186), .val (.ref b355), .val (.ref b366), .val (.int (if b186 = b186 then (if p3 = p3 then (1 : Int32) else 0) else 0)), .val (.int (1 : Int32))] [(.ref b366)]))
          refine own_st (fun _ k => XS.aload X385.here hx rfl (hb hby at_154) rfl rfl k) ?_
          show own_Go p e below s _ _ _ (T385.setTop (mkF m 156 #[.val (.long p1), .second, .val (.long p2), .second, .val (.int p3), .val (.int p4), .val (.int p5), .val (.ref b186), .val (.ref b209), .val (.int (1 : Int32)), .val (.int p4), .val (.int ((p5 >>> ((2 : Int32) &&& 31)) &&& (3 : Int32))), .val (.ref b186), .val (.ref b355), .val (.ref b366), .val (.int (if b186 = b186 then (if p3 = p3 then (1 : Int32) else 0) else 0)), .val (.int (1 : Int32))] [(.ref b355), (.ref b366)]))
          obtain ⟨cq387, kq387, q387a, q387b, q387c⟩ := isOf hZ eh385 q372
          obtain ⟨_, _, ⟨T387, L387, k387, n387⟩, -, X387, ⟨Lc387, hQ387, l387, y387, z387⟩, st387⟩ := X385.virtualBack hx (y := (⟨"com/example/treeloom/treeloom/xdm/Node", "equals", "(Ljava/lang/Object;)Z"⟩ : MethodName)) (z := (⟨"com/example/treeloom/treeloom/xdm/Node", "equals", "(Ljava/lang/Object;)Z"⟩ : MethodName)) hown (mvT hZ (hw _ (List.mem_of_getElem? (i := 48) rfl))) (mvT hZ (hw _ (List.mem_of_getElem? (i := 49) rfl))) (notFace_of_selects (args := #[]) (mvT hZ (hw _ (List.mem_of_getElem? (i := 51) rfl)))) (mvT hZ (hw _ (List.mem_of_getElem? (i := 51) rfl))) (mvT hZ (hw _ (List.mem_of_getElem? (i := 50) rfl))) (by decide) (backOf (W := 0) (own_rm_eqO l Z a0 hw [] b366 b355 b186 b186 p4 p3 T371.heap n0 Zs376 F378 q373 q374 F380 F381) hZ (hw _ (List.mem_of_getElem? (i := 52) rfl)) (hw _ (List.mem_of_getElem? (i := 35) rfl)) (by decide) (by decide)) q387a q387c (g := (mkF m 156 #[.val (.long p1), .second, .val (.long p2), .second, .val (.int p3), .val (.int p4), .val (.int p5), .val (.ref b186), .val (.ref b209), .val (.int (1 : Int32)), .val (.int p4), .val (.int ((p5 >>> ((2 : Int32) &&& 31)) &&& (3 : Int32))), .val (.ref b186), .val (.ref b355), .val (.ref b366), .val (.int (if b186 = b186 then (if p3 = p3 then (1 : Int32) else 0) else 0)), .val (.int (1 : Int32))] [(.ref b355), (.ref b366)])) rfl (by rw [hml]; rfl) (Steps.refl _) (argsL := [(.ref b355)]) (rest := []) (lenOf own_pd4 rfl) rfl (by show 2 * 0 + _ ≤ _; exact Nat.le_of_eq rfl) (hb hby at_156) (fun _ _ => ⟨rfl, eh385, (by decide : 18 + 0 ≤ _), (by decide : 220 + 0 ≤ _)⟩)
          dsimp only [Pt.U, Pt.locs, Pt.cells, Pt.slots] at X387 l387 y387 z387 st387 hQ387
          subst l387 y387 z387
          obtain ⟨N387q, rfl, eh387⟩ := hQ387
          have N388 := Fr.app N386 N387q
          refine own_tr st387 ?_
          show own_Go p e below s _ _ _ (T387.setTop (mkF m 159 #[.val (.long p1), .second, .val (.long p2), .second, .val (.int p3), .val (.int p4), .val (.int p5), .val (.ref b186), .val (.ref b209), .val (.int (1 : Int32)), .val (.int p4), .val (.int ((p5 >>> ((2 : Int32) &&& 31)) &&& (3 : Int32))), .val (.ref b186), .val (.ref b355), .val (.ref b366), .val (.int (if b186 = b186 then (if p3 = p3 then (1 : Int32) else 0) else 0)), .val (.int (1 : Int32))] [(.int (if b186 = b186 then (if p4 = p3 then (1 : Int32) else 0) else 0))]))
          refine own_st (fun _ k => XS.iload X387.here hx rfl (hb hby at_159) rfl k) ?_
          show own_Go p e below s _ _ _ (T387.setTop (mkF m 161 #[.val (.long p1), .second, .val (.long p2), .second, .val (.int p3), .val (.int p4), .val (.int p5), .val (.ref b186), .val (.ref b209), .val (.int (1 : Int32)), .val (.int p4), .val (.int ((p5 >>> ((2 : Int32) &&& 31)) &&& (3 : Int32))), .val (.ref b186), .val (.ref b355), .val (.ref b366), .val (.int (if b186 = b186 then (if p3 = p3 then (1 : Int32) else 0) else 0)), .val (.int (1 : Int32))] [(.int (1 : Int32)), (.int (if b186 = b186 then (if p4 = p3 then (1 : Int32) else 0) else 0))]))
          refine own_st (fun _ k => XS.icmpNo X387.here hx rfl (hb hby at_161) rfl (XT.ii_ne_f (by simp [hc384])) k) ?_
          show own_Go p e below s _ _ _ (T387.setTop (mkF m 164 #[.val (.long p1), .second, .val (.long p2), .second, .val (.int p3), .val (.int p4), .val (.int p5), .val (.ref b186), .val (.ref b209), .val (.int (1 : Int32)), .val (.int p4), .val (.int ((p5 >>> ((2 : Int32) &&& 31)) &&& (3 : Int32))), .val (.ref b186), .val (.ref b355), .val (.ref b366), .val (.int (if b186 = b186 then (if p3 = p3 then (1 : Int32) else 0) else 0)), .val (.int (1 : Int32))] []))
          refine own_st (fun _ k => XT.iconstV X387.here hx rfl (1 : Int32) (hb hby at_164) (by decide) k) ?_
          show own_Go p e below s _ _ _ (T387.setTop (mkF m 165 #[.val (.long p1), .second, .val (.long p2), .second, .val (.int p3), .val (.int p4), .val (.int p5), .val (.ref b186), .val (.ref b209), .val (.int (1 : Int32)), .val (.int p4), .val (.int ((p5 >>> ((2 : Int32) &&& 31)) &&& (3 : Int32))), .val (.ref b186), .val (.ref b355), .val (.ref b366), .val (.int (if b186 = b186 then (if p3 = p3 then (1 : Int32) else 0) else 0)), .val (.int (1 : Int32))] [(.int (1 : Int32))]))
          refine own_st (fun _ k => XS.goto X387.here hx rfl (pc0 := 165) (pc' := 169) rfl (hb hby at_165) (by decide) (by decide) k) ?_
          show own_Go p e below s _ _ _ (T387.setTop (mkF m 169 #[.val (.long p1), .second, .val (.long p2), .second, .val (.int p3), .val (.int p4), .val (.int p5), .val (.ref b186), .val (.ref b209), .val (.int (1 : Int32)), .val (.int p4), .val (.int ((p5 >>> ((2 : Int32) &&& 31)) &&& (3 : Int32))), .val (.ref b186), .val (.ref b355), .val (.ref b366), .val (.int (if b186 = b186 then (if p3 = p3 then (1 : Int32) else 0) else 0)), .val (.int (1 : Int32))] [(.int (1 : Int32))]))
          refine own_st (fun _ k => XS.istore X387.here hx rfl (hb hby at_169) rfl (l' := #[.val (.long p1), .second, .val (.long p2), .second, .val (.int p3), .val (.int p4), .val (.int p5), .val (.ref b186), .val (.ref b209), .val (.int (1 : Int32)), .val (.int p4), .val (.int ((p5 >>> ((2 : Int32) &&& 31)) &&& (3 : Int32))), .val (.ref b186), .val (.ref b355), .val (.ref b366), .val (.int (1 : Int32)), .val (.int (1 : Int32))]) rfl k) ?_
          show own_Go p e below s _ _ _ (T387.setTop (mkF m 171 #[.val (.long p1), .second, .val (.long p2), .second, .val (.int p3), .val (.int p4), .val (.int p5), .val (.ref b186), .val (.ref b209), .val (.int (1 : Int32)), .val (.int p4), .val (.int ((p5 >>> ((2 : Int32) &&& 31)) &&& (3 : Int32))), .val (.ref b186), .val (.ref b355), .val (.ref b366), .val (.int (1 : Int32)), .val (.int (1 : Int32))] []))
          refine own_st (fun _ k => XS.goto X387.here hx rfl (pc0 := 171) (pc' := 282) rfl (hb hby at_171) (by decide) (by decide) k) ?_
          show own_Go p e below s _ _ _ (T387.setTop (mkF m 282 #[.val (.long p1), .second, .val (.long p2), .second, .val (.int p3), .val (.int p4), .val (.int p5), .val (.ref b186), .val (.ref b209), .val (.int (1 : Int32)), .val (.int p4), .val (.int ((p5 >>> ((2 : Int32) &&& 31)) &&& (3 : Int32))), .val (.ref b186), .val (.ref b355), .val (.ref b366), .val (.int (1 : Int32)), .val (.int (1 : Int32))] []))
          refine own_st (fun _ k => XS.iload X387.here hx rfl (hb hby at_282) rfl k) ?_
          show own_Go p e below s _ _ _ (T387.setTop (mkF m 284 #[.val (.long p1), .second, .val (.long p2), .second, .val (.int p3), .val (.int p4), .val (.int p5), .val (.ref b186), .val (.ref b209), .val (.int (1 : Int32)), .val (.int p4), .val (.int ((p5 >>> ((2 : Int32) &&& 31)) &&& (3 : Int32))), .val (.ref b186), .val (.ref b355), .val (.ref b366), .val (.int (1 : Int32)), .val (.int (1 : Int32))] [(.int (1 : Int32))]))
          refine own_retN X387 hx hlk Bd.returns (t := .boolean) (z' := (1 : Int32)) (by simp) (by decide) (hb hby at_284) (by decide) (by decide) ?_
          rw [eh387]
          exact ⟨N388, rfl⟩
        · refine own_st (fun _ k => XS.icmpYes X377.here hx rfl (pc0 := 125) (pc' := 132) rfl (hb hby at_125) rfl (XT.ii_ne_t hc384) (by decide) (by decide) k) ?_
          show own_Go p e below s _ _ _ (T377.setTop (mkF m 132 #[.val (.long p1), .second, .val (.long p2), .second, .val (.int p3), .val (.int p4), .val (.int p5), .val (.ref b186), .val (.ref b209), .val (.int (1 : Int32)), .val (.int p4), .val (.int ((p5 >>> ((2 : Int32) &&& 31)) &&& (3 : Int32))), .val (.ref b186), .val (.ref b355), .val (.ref b366), .val (.int (if b186 = b186 then (if p3 = p3 then (1 : Int32) else 0) else 0)), .unset] []))
          refine own_st (fun _ k => XT.iconstV X377.here hx rfl (0 : Int32) (hb hby at_132) (by decide) k) ?_
          show own_Go p e below s _ _ _ (T377.setTop (mkF m 133 #[.val (.long p1), .second, .val (.long p2), .second, .val (.int p3), .val (.int p4), .val (.int p5), .val (.ref b186), .val (.ref b209), .val (.int (1 : Int32)), .val (.int p4), .val (.int ((p5 >>> ((2 : Int32) &&& 31)) &&& (3 : Int32))), .val (.ref b186), .val (.ref b355), .val (.ref b366), .val (.int (if b186 = b186 then (if p3 = p3 then (1 : Int32) else 0) else 0)), .unset] [(.int (0 : Int32))]))
          refine own_st (fun _ k => XS.istore X377.here hx rfl (hb hby at_133) rfl (l' := #[.val (.long p1), .second, .val (.long p2), .second, .val (.int p3), .val (.int p4), .val (.int p5), .val (.ref b186), .val (.ref b209), .val (.int (1 : Int32)), .val (.int p4), .val (.int ((p5 >>> ((2 : Int32) &&& 31)) &&& (3 : Int32))), .val (.ref b186), .val (.ref b355), .val (.ref b366), .val (.int (if b186 = b186 then (if p3 = p3 then (1 : Int32) else 0) else 0)), .val (.int (0 : Int32))]) rfl k) ?_
          show own_Go p e below s _ _ _ (T377.setTop (mkF m 135 #[.val (.long p1), .second, .val (.long p2), .second, .val (.int p3), .val (.int p4), .val (.int p5), .val (.ref b186), .val (.ref b209), .val (.int (1 : Int32)), .val (.int p4), .val (.int ((p5 >>> ((2 : Int32) &&& 31)) &&& (3 : Int32))), .val (.ref b186), .val (.ref b355), .val (.ref b366), .val (.int (if b186 = b186 then (if p3 = p3 then (1 : Int32) else 0) else 0)), .val (.int (0 : Int32))] []))
          refine own_st (fun _ k => XS.iload X377.here hx rfl (hb hby at_135) rfl k) ?_
          show own_Go p e below s _ _ _ (T377.setTop (mkF m 137 #[.val (.long p1), .second, .val (.long p2), .second, .val (.int p3), .val (.int p4), .val (.int p5), .val (.ref b186), .val (.ref b209), .val (.int (1 : Int32)), .val (.int p4), .val (.int ((p5 >>> ((2 : Int32) &&& 31)) &&& (3 : Int32))), .val (.ref b186), .val (.ref b355), .val (.ref b366), .val (.int (if b186 = b186 then (if p3 = p3 then (1 : Int32) else 0) else 0)), .val (.int (0 : Int32))] [(.int (if b186 = b186 then (if p3 = p3 then (1 : Int32) else 0) else 0))]))
          refine own_st (fun _ k => XS.ifNo X377.here hx rfl (hb hby at_137) rfl (XT.i0_eq_f (by simp)) k) ?_
          show own_Go p e below s _ _ _ (T377.setTop (mkF m 140 #[.val (.long p1), .second, .val (.long p2), .second, .val (.int p3), .val (.int p4), .val (.int p5), .val (.ref b186), .val (.ref b209), .val (.int (1 : Int32)), .val (.int p4), .val (.int ((p5 >>> ((2 : Int32) &&& 31)) &&& (3 : Int32))), .val (.ref b186), .val (.ref b355), .val (.ref b366), .val (.int (if b186 = b186 then (if p3 = p3 then (1 : Int32) else 0) else 0)), .val (.int (0 : Int32))] []))
          refine own_st (fun _ k => XS.aload X377.here hx rfl (hb hby at_140) rfl rfl k) ?_
          show own_Go p e below s _ _ _ (T377.setTop (mkF m 142 #[.val (.long p1), .second, .val (.long p2), .second, .val (.int p3), .val (.int p4), .val (.int p5), .val (.ref b186), .val (.ref b209), .val (.int (1 : Int32)), .val (.int p4), .val (.int ((p5 >>> ((2 : Int32) &&& 31)) &&& (3 : Int32))), .val (.ref b186), .val (.ref b355), .val (.ref b366), .val (.int (if b186 = b186 then (if p3 = p3 then (1 : Int32) else 0) else 0)), .val (.int (0 : Int32))] [(.ref b355)]))
          refine own_st (fun _ k => XS.aload X377.here hx rfl (hb hby at_142) rfl rfl k) ?_
          show own_Go p e below s _ _ _ (T377.setTop (mkF m 144 #[.val (.long p1), .second, .val (.long p2), .second, .val (.int p3), .val (.int p4), .val (.int p5), .val (.ref b186), .val (.ref b209), .val (.int (1 : Int32)), .val (.int p4), .val (.int ((p5 >>> ((2 : Int32) &&& 31)) &&& (3 : Int32))), .val (.ref b186), .val (.ref b355), .val (.ref b366), .val (.int (if b186 = b186 then (if p3 = p3 then (1 : Int32) else 0) else 0)), .val (.int (0 : Int32))] [(.ref b366), (.ref b355)]))
          obtain ⟨cq389, kq389, q389a, q389b, q389c⟩ := isOf hZ eh377 F378
          obtain ⟨_, _, ⟨T389, L389, k389, n389⟩, -, X389, ⟨Lc389, hQ389, l389, y389, z389⟩, st389⟩ := X377.virtualBack hx (y := (⟨"com/example/treeloom/treeloom/xdm/Node", "equals", "(Ljava/lang/Object;)Z"⟩ : MethodName)) (z := (⟨"com/example/treeloom/treeloom/xdm/Node", "equals", "(Ljava/lang/Object;)Z"⟩ : MethodName)) hown (mvT hZ (hw _ (List.mem_of_getElem? (i := 48) rfl))) (mvT hZ (hw _ (List.mem_of_getElem? (i := 49) rfl))) (notFace_of_selects (args := #[]) (mvT hZ (hw _ (List.mem_of_getElem? (i := 51) rfl)))) (mvT hZ (hw _ (List.mem_of_getElem? (i := 51) rfl))) (mvT hZ (hw _ (List.mem_of_getElem? (i := 50) rfl))) (by decide) (backOf (W := 0) (own_rm_eqO l Z a0 hw [] b355 b366 b186 b186 p3 p4 T371.heap n0 Zs376 q372 F380 F381 q373 q374) hZ (hw _ (List.mem_of_getElem? (i := 52) rfl)) (hw _ (List.mem_of_getElem? (i := 35) rfl)) (by decide) (by decide)) q389a q389c (g := (mkF m 144 #[.val (.long p1), .second, .val (.long p2), .second, .val (.int p3), .val (.int p4), .val (.int p5), .val (.ref b186), .val (.ref b209), .val (.int (1 : Int32)), .val (.int p4), .val (.int ((p5 >>> ((2 : Int32) &&& 31)) &&& (3 : Int32))), .val (.ref b186), .val (.ref b355), .val (.ref b366), .val (.int (if b186 = b186 then (if p3 = p3 then (1 : Int32) else 0) else 0)), .val (.int (0 : Int32))] [(.ref b366), (.ref b355)])) rfl (by rw [hml]; rfl) (Steps.refl _) (argsL := [(.ref b366)]) (rest := []) (lenOf own_pd4 rfl) rfl (by show 2 * 0 + _ ≤ _; exact Nat.le_of_eq rfl) (hb hby at_144) (fun _ _ => ⟨rfl, eh377, (by decide : 18 + 0 ≤ _), (by decide : 220 + 0 ≤ _)⟩)
          dsimp only [Pt.U, Pt.locs, Pt.cells, Pt.slots] at X389 l389 y389 z389 st389 hQ389
          subst l389 y389 z389
          obtain ⟨N389q, rfl, eh389⟩ := hQ389
          have N390 := Fr.app N382 N389q
          refine own_tr st389 ?_
          show own_Go p e below s _ _ _ (T389.setTop (mkF m 147 #[.val (.long p1), .second, .val (.long p2), .second, .val (.int p3), .val (.int p4), .val (.int p5), .val (.ref b186), .val (.ref b209), .val (.int (1 : Int32)), .val (.int p4), .val (.int ((p5 >>> ((2 : Int32) &&& 31)) &&& (3 : Int32))), .val (.ref b186), .val (.ref b355), .val (.ref b366), .val (.int (if b186 = b186 then (if p3 = p3 then (1 : Int32) else 0) else 0)), .val (.int (0 : Int32))] [(.int (if b186 = b186 then (if p3 = p4 then (1 : Int32) else 0) else 0))]))
          refine own_st (fun _ k => XS.iload X389.here hx rfl (hb hby at_147) rfl k) ?_
          show own_Go p e below s _ _ _ (T389.setTop (mkF m 149 #[.val (.long p1), .second, .val (.long p2), .second, .val (.int p3), .val (.int p4), .val (.int p5), .val (.ref b186), .val (.ref b209), .val (.int (1 : Int32)), .val (.int p4), .val (.int ((p5 >>> ((2 : Int32) &&& 31)) &&& (3 : Int32))), .val (.ref b186), .val (.ref b355), .val (.ref b366), .val (.int (if b186 = b186 then (if p3 = p3 then (1 : Int32) else 0) else 0)), .val (.int (0 : Int32))] [(.int (0 : Int32)), (.int (if b186 = b186 then (if p3 = p4 then (1 : Int32) else 0) else 0))]))
          refine own_st (fun _ k => XS.icmpNo X389.here hx rfl (hb hby at_149) rfl (XT.ii_ne_f (by simp [hc384, (show ¬ (p4 = p3) from fun q => hc384 q.symm)])) k) ?_
          show own_Go p e below s _ _ _ (T389.setTop (mkF m 152 #[.val (.long p1), .second, .val (.long p2), .second, .val (.int p3), .val (.int p4), .val (.int p5), .val (.ref b186), .val (.ref b209), .val (.int (1 : Int32)), .val (.int p4), .val (.int ((p5 >>> ((2 : Int32) &&& 31)) &&& (3 : Int32))), .val (.ref b186), .val (.ref b355), .val (.ref b366), .val (.int (if b186 = b186 then (if p3 = p3 then (1 : Int32) else 0) else 0)), .val (.int (0 : Int32))] []))
          refine own_st (fun _ k => XS.aload X389.here hx rfl (hb hby at_152) rfl rfl k) ?_
          show own_Go p e below s _ _ _ (T389.setTop (mkF m 154 #[.val (.long p1), .second, .val (.long p2), .second, .val (.int p3), .val (.int p4), .val (.int p5), .val (.ref b186), .val (.ref b209), .val (.int (1 : Int32)), .val (.int p4), .val (.int ((p5 >>> ((2 : Int32) &&& 31)) &&& (3 : Int32))), .val (.ref b186), .val (.ref b355), .val (.ref b366), .val (.int (if b186 = b186 then (if p3 = p3 then (1 : Int32) else 0) else 0)), .val (.int (0 : Int32))] [(.ref b366)]))
          refine own_st (fun _ k => XS.aload X389.here hx rfl (hb hby at_154) rfl rfl k) ?_
          show own_Go p e below s _ _ _ (T389.setTop (mkF m 156 #[.val (.long p1), .second, .val (.long p2), .second, .val (.int p3), .val (.int p4), .val (.int p5), .val (.ref b186), .val (.ref b209), .val (.int (1 : Int32)), .val (.int p4), .val (.int ((p5 >>> ((2 : Int32) &&& 31)) &&& (3 : Int32))), .val (.ref b186), .val (.ref b355), .val (.ref b366), .val (.int (if b186 = b186 then (if p3 = p3 then (1 : Int32) else 0) else 0)), .val (.int (0 : Int32))] [(.ref b355), (.ref b366)]))
          obtain ⟨cq391, kq391, q391a, q391b, q391c⟩ := isOf hZ eh389 q372
          obtain ⟨_, _, ⟨T391, L391, k391, n391⟩, -, X391, ⟨Lc391, hQ391, l391, y391, z391⟩, st391⟩ := X389.virtualBack hx (y := (⟨"com/example/treeloom/treeloom/xdm/Node", "equals", "(Ljava/lang/Object;)Z"⟩ : MethodName)) (z := (⟨"com/example/treeloom/treeloom/xdm/Node", "equals", "(Ljava/lang/Object;)Z"⟩ : MethodName)) hown (mvT hZ (hw _ (List.mem_of_getElem? (i := 48) rfl))) (mvT hZ (hw _ (List.mem_of_getElem? (i := 49) rfl))) (notFace_of_selects (args := #[]) (mvT hZ (hw _ (List.mem_of_getElem? (i := 51) rfl)))) (mvT hZ (hw _ (List.mem_of_getElem? (i := 51) rfl))) (mvT hZ (hw _ (List.mem_of_getElem? (i := 50) rfl))) (by decide) (backOf (W := 0) (own_rm_eqO l Z a0 hw [] b366 b355 b186 b186 p4 p3 T371.heap n0 Zs376 F378 q373 q374 F380 F381) hZ (hw _ (List.mem_of_getElem? (i := 52) rfl)) (hw _ (List.mem_of_getElem? (i := 35) rfl)) (by decide) (by decide)) q391a q391c (g := (mkF m 156 #[.val (.long p1), .second, .val (.long p2), .second, .val (.int p3), .val (.int p4), .val (.int p5), .val (.ref b186), .val (.ref b209), .val (.int (1 : Int32)), .val (.int p4), .val (.int ((p5 >>> ((2 : Int32) &&& 31)) &&& (3 : Int32))), .val (.ref b186), .val (.ref b355), .val (.ref b366), .val (.int (if b186 = b186 then (if p3 = p3 then (1 : Int32) else 0) else 0)), .val (.int (0 : Int32))] [(.ref b355), (.ref b366)])) rfl (by rw [hml]; rfl) (Steps.refl _) (argsL := [(.ref b355)]) (rest := []) (lenOf own_pd4 rfl) rfl (by show 2 * 0 + _ ≤ _; exact Nat.le_of_eq rfl) (hb hby at_156) (fun _ _ => ⟨rfl, eh389, (by decide : 18 + 0 ≤ _), (by decide : 220 + 0 ≤ _)⟩)
          dsimp only [Pt.U, Pt.locs, Pt.cells, Pt.slots] at X391 l391 y391 z391 st391 hQ391
          subst l391 y391 z391
          obtain ⟨N391q, rfl, eh391⟩ := hQ391
          have N392 := Fr.app N390 N391q
          refine own_tr st391 ?_
          show own_Go p e below s _ _ _ (T391.setTop (mkF m 159 #[.val (.long p1), .second, .val (.long p2), .second, .val (.int p3), .val (.int p4), .val (.int p5), .val (.ref b186), .val (.ref b209), .val (.int (1 : Int32)), .val (.int p4), .val (.int ((p5 >>> ((2 : Int32) &&& 31)) &&& (3 : Int32))), .val (.ref b186), .val (.ref b355), .val (.ref b366), .val (.int (if b186 = b186 then (if p3 = p3 then (1 : Int32) else 0) else 0)), .val (.int (0 : Int32))] [(.int (if b186 = b186 then (if p4 = p3 then (1 : Int32) else 0) else 0))]))
          refine own_st (fun _ k => XS.iload X391.here hx rfl (hb hby at_159) rfl k) ?_
          show own_Go p e below s _ _ _ (T391.setTop (mkF m 161 #[.val (.long p1), .second, .val (.long p2), .second, .val (.int p3), .val (.int p4), .val (.int p5), .val (.ref b186), .val (.ref b209), .val (.int (1 : Int32)), .val (.int p4), .val (.int ((p5 >>> ((2 : Int32) &&& 31)) &&& (3 : Int32))), .val (.ref b186), .val (.ref b355), .val (.ref b366), .val (.int (if b186 = b186 then (if p3 = p3 then (1 : Int32) else 0) else 0)), .val (.int (0 : Int32))] [(.int (0 : Int32)), (.int (if b186 = b186 then (if p4 = p3 then (1 : Int32) else 0) else 0))]))
          refine own_st (fun _ k => XS.icmpNo X391.here hx rfl (hb hby at_161) rfl (XT.ii_ne_f (by simp [hc384, (show ¬ (p4 = p3) from fun q => hc384 q.symm)])) k) ?_
          show own_Go p e below s _ _ _ (T391.setTop (mkF m 164 #[.val (.long p1), .second, .val (.long p2), .second, .val (.int p3), .val (.int p4), .val (.int p5), .val (.ref b186), .val (.ref b209), .val (.int (1 : Int32)), .val (.int p4), .val (.int ((p5 >>> ((2 : Int32) &&& 31)) &&& (3 : Int32))), .val (.ref b186), .val (.ref b355), .val (.ref b366), .val (.int (if b186 = b186 then (if p3 = p3 then (1 : Int32) else 0) else 0)), .val (.int (0 : Int32))] []))
          refine own_st (fun _ k => XT.iconstV X391.here hx rfl (1 : Int32) (hb hby at_164) (by decide) k) ?_
          show own_Go p e below s _ _ _ (T391.setTop (mkF m 165 #[.val (.long p1), .second, .val (.long p2), .second, .val (.int p3), .val (.int p4), .val (.int p5), .val (.ref b186), .val (.ref b209), .val (.int (1 : Int32)), .val (.int p4), .val (.int ((p5 >>> ((2 : Int32) &&& 31)) &&& (3 : Int32))), .val (.ref b186), .val (.ref b355), .val (.ref b366), .val (.int (if b186 = b186 then (if p3 = p3 then (1 : Int32) else 0) else 0)), .val (.int (0 : Int32))] [(.int (1 : Int32))]))
          refine own_st (fun _ k => XS.goto X391.here hx rfl (pc0 := 165) (pc' := 169) rfl (hb hby at_165) (by decide) (by decide) k) ?_
          show own_Go p e below s _ _ _ (T391.setTop (mkF m 169 #[.val (.long p1), .second, .val (.long p2), .second, .val (.int p3), .val (.int p4), .val (.int p5), .val (.ref b186), .val (.ref b209), .val (.int (1 : Int32)), .val (.int p4), .val (.int ((p5 >>> ((2 : Int32) &&& 31)) &&& (3 : Int32))), .val (.ref b186), .val (.ref b355), .val (.ref b366), .val (.int (if b186 = b186 then (if p3 = p3 then (1 : Int32) else 0) else 0)), .val (.int (0 : Int32))] [(.int (1 : Int32))]))
          refine own_st (fun _ k => XS.istore X391.here hx rfl (hb hby at_169) rfl (l' := #[.val (.long p1), .second, .val (.long p2), .second, .val (.int p3), .val (.int p4), .val (.int p5), .val (.ref b186), .val (.ref b209), .val (.int (1 : Int32)), .val (.int p4), .val (.int ((p5 >>> ((2 : Int32) &&& 31)) &&& (3 : Int32))), .val (.ref b186), .val (.ref b355), .val (.ref b366), .val (.int (1 : Int32)), .val (.int (0 : Int32))]) rfl k) ?_
          show own_Go p e below s _ _ _ (T391.setTop (mkF m 171 #[.val (.long p1), .second, .val (.long p2), .second, .val (.int p3), .val (.int p4), .val (.int p5), .val (.ref b186), .val (.ref b209), .val (.int (1 : Int32)), .val (.int p4), .val (.int ((p5 >>> ((2 : Int32) &&& 31)) &&& (3 : Int32))), .val (.ref b186), .val (.ref b355), .val (.ref b366), .val (.int (1 : Int32)), .val (.int (0 : Int32))] []))
          refine own_st (fun _ k => XS.goto X391.here hx rfl (pc0 := 171) (pc' := 282) rfl (hb hby at_171) (by decide) (by decide) k) ?_
          show own_Go p e below s _ _ _ (T391.setTop (mkF m 282 #[.val (.long p1), .second, .val (.long p2), .second, .val (.int p3), .val (.int p4), .val (.int p5), .val (.ref b186), .val (.ref b209), .val (.int (1 : Int32)), .val (.int p4), .val (.int ((p5 >>> ((2 : Int32) &&& 31)) &&& (3 : Int32))), .val (.ref b186), .val (.ref b355), .val (.ref b366), .val (.int (1 : Int32)), .val (.int (0 : Int32))] []))
          refine own_st (fun _ k => XS.iload X391.here hx rfl (hb hby at_282) rfl k) ?_
          show own_Go p e below s _ _ _ (T391.setTop (mkF m 284 #[.val (.long p1), .second, .val (.long p2), .second, .val (.int p3), .val (.int p4), .val (.int p5), .val (.ref b186), .val (.ref b209), .val (.int (1 : Int32)), .val (.int p4), .val (.int ((p5 >>> ((2 : Int32) &&& 31)) &&& (3 : Int32))), .val (.ref b186), .val (.ref b355), .val (.ref b366), .val (.int (1 : Int32)), .val (.int (0 : Int32))] [(.int (1 : Int32))]))
          refine own_retN X391 hx hlk Bd.returns (t := .boolean) (z' := (1 : Int32)) (by simp) (by decide) (hb hby at_284) (by decide) (by decide) ?_
          rw [eh391]
          exact ⟨N392, rfl⟩
      · refine own_st (fun _ k => XS.ifYes X377.here hx rfl (pc0 := 113) (pc' := 174) rfl (hb hby at_113) rfl (XT.i0_ne_t hc383) (by decide) (by decide) k) ?_
        show own_Go p e below s _ _ _ (T377.setTop (mkF m 174 #[.val (.long p1), .second, .val (.long p2), .second, .val (.int p3), .val (.int p4), .val (.int p5), .val (.ref b186), .val (.ref b209), .val (.int (1 : Int32)), .val (.int p4), .val (.int ((p5 >>> ((2 : Int32) &&& 31)) &&& (3 : Int32))), .val (.ref b186), .val (.ref b355), .val (.ref b366), .val (.int (if b186 = b186 then (if p3 = p3 then (1 : Int32) else 0) else 0)), .unset] []))
        refine own_st (fun _ k => XS.iload X377.here hx rfl (hb hby at_174) rfl k) ?_
        show own_Go p e below s _ _ _ (T377.setTop (mkF m 176 #[.val (.long p1), .second, .val (.long p2), .second, .val (.int p3), .val (.int p4), .val (.int p5), .val (.ref b186), .val (.ref b209), .val (.int (1 : Int32)), .val (.int p4), .val (.int ((p5 >>> ((2 : Int32) &&& 31)) &&& (3 : Int32))), .val (.ref b186), .val (.ref b355), .val (.ref b366), .val (.int (if b186 = b186 then (if p3 = p3 then (1 : Int32) else 0) else 0)), .unset] [(.int ((p5 >>> ((2 : Int32) &&& 31)) &&& (3 : Int32)))]))
        refine own_st (fun _ k => XT.iconstV X377.here hx rfl (1 : Int32) (hb hby at_176) (by decide) k) ?_
        show own_Go p e below s _ _ _ (T377.setTop (mkF m 177 #[.val (.long p1), .second, .val (.long p2), .second, .val (.int p3), .val (.int p4), .val (.int p5), .val (.ref b186), .val (.ref b209), .val (.int (1 : Int32)), .val (.int p4), .val (.int ((p5 >>> ((2 : Int32) &&& 31)) &&& (3 : Int32))), .val (.ref b186), .val (.ref b355), .val (.ref b366), .val (.int (if b186 = b186 then (if p3 = p3 then (1 : Int32) else 0) else 0)), .unset] [(.int (1 : Int32)), (.int ((p5 >>> ((2 : Int32) &&& 31)) &&& (3 : Int32)))]))
        by_cases hc393 : ((p5 >>> ((2 : Int32) &&& 31)) &&& (3 : Int32)) = (1 : Int32)
        · refine own_st (fun _ k => XS.icmpNo X377.here hx rfl (hb hby at_177) rfl (XT.ii_ne_f hc393) k) ?_
          show own_Go p e below s _ _ _ (T377.setTop (mkF m 180 #[.val (.long p1), .second, .val (.long p2), .second, .val (.int p3), .val (.int p4), .val (.int p5), .val (.ref b186), .val (.ref b209), .val (.int (1 : Int32)), .val (.int p4), .val (.int ((p5 >>> ((2 : Int32) &&& 31)) &&& (3 : Int32))), .val (.ref b186), .val (.ref b355), .val (.ref b366), .val (.int (if b186 = b186 then (if p3 = p3 then (1 : Int32) else 0) else 0)), .unset] []))
          refine own_st (fun _ k => XS.iload X377.here hx rfl (hb hby at_180) rfl k) ?_
          show own_Go p e below s _ _ _ (T377.setTop (mkF m 182 #[.val (.long p1), .second, .val (.long p2), .second, .val (.int p3), .val (.int p4), .val (.int p5), .val (.ref b186), .val (.ref b209), .val (.int (1 : Int32)), .val (.int p4), .val (.int ((p5 >>> ((2 : Int32) &&& 31)) &&& (3 : Int32))), .val (.ref b186), .val (.ref b355), .val (.ref b366), .val (.int (if b186 = b186 then (if p3 = p3 then (1 : Int32) else 0) else 0)), .unset] [(.int (if b186 = b186 then (if p3 = p3 then (1 : Int32) else 0) else 0))]))
          refine own_st (fun _ k => XS.ifNo X377.here hx rfl (hb hby at_182) rfl (XT.i0_eq_f (by simp)) k) ?_
          show own_Go p e below s _ _ _ (T377.setTop (mkF m 185 #[.val (.long p1), .second, .val (.long p2), .second, .val (.int p3), .val (.int p4), .val (.int p5), .val (.ref b186), .val (.ref b209), .val (.int (1 : Int32)), .val (.int p4), .val (.int ((p5 >>> ((2 : Int32) &&& 31)) &&& (3 : Int32))), .val (.ref b186), .val (.ref b355), .val (.ref b366), .val (.int (if b186 = b186 then (if p3 = p3 then (1 : Int32) else 0) else 0)), .unset] []))
          refine own_st (fun _ k => XS.aload X377.here hx rfl (hb hby at_185) rfl rfl k) ?_
          show own_Go p e below s _ _ _ (T377.setTop (mkF m 187 #[.val (.long p1), .second, .val (.long p2), .second, .val (.int p3), .val (.int p4), .val (.int p5), .val (.ref b186), .val (.ref b209), .val (.int (1 : Int32)), .val (.int p4), .val (.int ((p5 >>> ((2 : Int32) &&& 31)) &&& (3 : Int32))), .val (.ref b186), .val (.ref b355), .val (.ref b366), .val (.int (if b186 = b186 then (if p3 = p3 then (1 : Int32) else 0) else 0)), .unset] [(.ref b355)]))
          refine own_st (fun _ k => XS.aconstNull X377.here hx rfl (hb hby at_187) k) ?_
          show own_Go p e below s _ _ _ (T377.setTop (mkF m 188 #[.val (.long p1), .second, .val (.long p2), .second, .val (.int p3), .val (.int p4), .val (.int p5), .val (.ref b186), .val (.ref b209), .val (.int (1 : Int32)), .val (.int p4), .val (.int ((p5 >>> ((2 : Int32) &&& 31)) &&& (3 : Int32))), .val (.ref b186), .val (.ref b355), .val (.ref b366), .val (.int (if b186 = b186 then (if p3 = p3 then (1 : Int32) else 0) else 0)), .unset] [.null, (.ref b355)]))
          obtain ⟨cq394, kq394, q394a, q394b, q394c⟩ := isOf hZ eh377 F378
          obtain ⟨_, _, ⟨T394, L394, k394, n394⟩, -, X394, ⟨Lc394, hQ394, l394, y394, z394⟩, st394⟩ := X377.virtualBack hx (y := (⟨"com/example/treeloom/treeloom/xdm/Node", "equals", "(Ljava/lang/Object;)Z"⟩ : MethodName)) (z := (⟨"com/example/treeloom/treeloom/xdm/Node", "equals", "(Ljava/lang/Object;)Z"⟩ : MethodName)) hown (mvT hZ (hw _ (List.mem_of_getElem? (i := 48) rfl))) (mvT hZ (hw _ (List.mem_of_getElem? (i := 49) rfl))) (notFace_of_selects (args := #[]) (mvT hZ (hw _ (List.mem_of_getElem? (i := 51) rfl)))) (mvT hZ (hw _ (List.mem_of_getElem? (i := 51) rfl))) (mvT hZ (hw _ (List.mem_of_getElem? (i := 50) rfl))) (by decide) (backOf (W := 0) (own_rm_eqN l Z a0 hw [] b355 T371.heap n0 Zs376 ) hZ (hw _ (List.mem_of_getElem? (i := 52) rfl)) (hw _ (List.mem_of_getElem? (i := 35) rfl)) (by decide) (by decide)) q394a q394c (g := (mkF m 188 #[.val (.long p1), .second, .val (.long p2), .second, .val (.int p3), .val (.int p4), .val (.int p5), .val (.ref b186), .val (.ref b209), .val (.int (1 : Int32)), .val (.int p4), .val (.int ((p5 >>> ((2 : Int32) &&& 31)) &&& (3 : Int32))), .val (.ref b186), .val (.ref b355), .val (.ref b366), .val (.int (if b186 = b186 then (if p3 = p3 then (1 : Int32) else 0) else 0)), .unset] [.null, (.ref b355)])) rfl (by rw [hml]; rfl) (Steps.refl _) (argsL := [.null]) (rest := []) (lenOf own_pd4 rfl) rfl (by show 2 * 0 + _ ≤ _; exact Nat.le_of_eq rfl) (hb hby at_188) (fun _ _ => ⟨rfl, eh377, (by decide : 18 + 0 ≤ _), (by decide : 220 + 0 ≤ _)⟩)
          dsimp only [Pt.U, Pt.locs, Pt.cells, Pt.slots] at X394 l394 y394 z394 st394 hQ394
          subst l394 y394 z394
          obtain ⟨N394q, rfl, eh394⟩ := hQ394
          have N395 := Fr.app N382 N394q
          refine own_tr st394 ?_
          show own_Go p e below s _ _ _ (T394.setTop (mkF m 191 #[.val (.long p1), .second, .val (.long p2), .second, .val (.int p3), .val (.int p4), .val (.int p5), .val (.ref b186), .val (.ref b209), .val (.int (1 : Int32)), .val (.int p4), .val (.int ((p5 >>> ((2 : Int32) &&& 31)) &&& (3 : Int32))), .val (.ref b186), .val (.ref b355), .val (.ref b366), .val (.int (if b186 = b186 then (if p3 = p3 then (1 : Int32) else 0) else 0)), .unset] [(.int (0 : Int32))]))
          refine own_st (fun _ k => XS.ifNo X394.here hx rfl (hb hby at_191) rfl (XT.i0_ne_f (by decide)) k) ?_
          show own_Go p e below s _ _ _ (T394.setTop (mkF m 194 #[.val (.long p1), .second, .val (.long p2), .second, .val (.int p3), .val (.int p4), .val (.int p5), .val (.ref b186), .val (.ref b209), .val (.int (1 : Int32)), .val (.int p4), .val (.int ((p5 >>> ((2 : Int32) &&& 31)) &&& (3 : Int32))), .val (.ref b186), .val (.ref b355), .val (.ref b366), .val (.int (if b186 = b186 then (if p3 = p3 then (1 : Int32) else 0) else 0)), .unset] []))
          refine own_st (fun _ k => XT.iconstV X394.here hx rfl (1 : Int32) (hb hby at_194) (by decide) k) ?_
          show own_Go p e below s _ _ _ (T394.setTop (mkF m 195 #[.val (.long p1), .second, .val (.long p2), .second, .val (.int p3), .val (.int p4), .val (.int p5), .val (.ref b186), .val (.ref b209), .val (.int (1 : Int32)), .val (.int p4), .val (.int ((p5 >>> ((2 : Int32) &&& 31)) &&& (3 : Int32))), .val (.ref b186), .val (.ref b355), .val (.ref b366), .val (.int (if b186 = b186 then (if p3 = p3 then (1 : Int32) else 0) else 0)), .unset] [(.int (1 : Int32))]))
          refine own_st (fun _ k => XS.goto X394.here hx rfl (pc0 := 195) (pc' := 199) rfl (hb hby at_195) (by decide) (by decide) k) ?_
          show own_Go p e below s _ _ _ (T394.setTop (mkF m 199 #[.val (.long p1), .second, .val (.long p2), .second, .val (.int p3), .val (.int p4), .val (.int p5), .val (.ref b186), .val (.ref b209), .val (.int (1 : Int32)), .val (.int p4), .val (.int ((p5 >>> ((2 : Int32) &&& 31)) &&& (3 : Int32))), .val (.ref b186), .val (.ref b355), .val (.ref b366), .val (.int (if b186 = b186 then (if p3 = p3 then (1 : Int32) else 0) else 0)), .unset] [(.int (1 : Int32))]))
          refine own_st (fun _ k => XS.istore X394.here hx rfl (hb hby at_199) rfl (l' := #[.val (.long p1), .second, .val (.long p2), .second, .val (.int p3), .val (.int p4), .val (.int p5), .val (.ref b186), .val (.ref b209), .val (.int (1 : Int32)), .val (.int p4), .val (.int ((p5 >>> ((2 : Int32) &&& 31)) &&& (3 : Int32))), .val (.ref b186), .val (.ref b355), .val (.ref b366), .val (.int (1 : Int32)), .unset]) rfl k) ?_
          show own_Go p e below s _ _ _ (T394.setTop (mkF m 201 #[.val (.long p1), .second, .val (.long p2), .second, .val (.int p3), .val (.int p4), .val (.int p5), .val (.ref b186), .val (.ref b209), .val (.int (1 : Int32)), .val (.int p4), .val (.int ((p5 >>> ((2 : Int32) &&& 31)) &&& (3 : Int32))), .val (.ref b186), .val (.ref b355), .val (.ref b366), .val (.int (1 : Int32)), .unset] []))
          refine own_st (fun _ k => XS.goto X394.here hx rfl (pc0 := 201) (pc' := 282) rfl (hb hby at_201) (by decide) (by decide) k) ?_
          show own_Go p e below s _ _ _ (T394.setTop (mkF m 282 #[.val (.long p1), .second, .val (.long p2), .second, .val (.int p3), .val (.int p4), .val (.int p5), .val (.ref b186), .val (.ref b209), .val (.int (1 : Int32)), .val (.int p4), .val (.int ((p5 >>> ((2 : Int32) &&& 31)) &&& (3 : Int32))), .val (.ref b186), .val (.ref b355), .val (.ref b366), .val (.int (1 : Int32)), .unset] []))
          refine own_st (fun _ k => XS.iload X394.here hx rfl (hb hby at_282) rfl k) ?_
          show own_Go p e below s _ _ _ (T394.setTop (mkF m 284 #[.val (.long p1), .second, .val (.long p2), .second, .val (.int p3), .val (.int p4), .val (.int p5), .val (.ref b186), .val (.ref b209), .val (.int (1 : Int32)), .val (.int p4), .val (.int ((p5 >>> ((2 : Int32) &&& 31)) &&& (3 : Int32))), .val (.ref b186), .val (.ref b355), .val (.ref b366), .val (.int (1 : Int32)), .unset] [(.int (1 : Int32))]))
          refine own_retN X394 hx hlk Bd.returns (t := .boolean) (z' := (1 : Int32)) (by simp) (by decide) (hb hby at_284) (by decide) (by decide) ?_
          rw [eh394]
          exact ⟨N395, rfl⟩
        · refine own_st (fun _ k => XS.icmpYes X377.here hx rfl (pc0 := 177) (pc' := 204) rfl (hb hby at_177) rfl (XT.ii_ne_t hc393) (by decide) (by decide) k) ?_
          show own_Go p e below s _ _ _ (T377.setTop (mkF m 204 #[.val (.long p1), .second, .val (.long p2), .second, .val (.int p3), .val (.int p4), .val (.int p5), .val (.ref b186), .val (.ref b209), .val (.int (1 : Int32)), .val (.int p4), .val (.int ((p5 >>> ((2 : Int32) &&& 31)) &&& (3 : Int32))), .val (.ref b186), .val (.ref b355), .val (.ref b366), .val (.int (if b186 = b186 then (if p3 = p3 then (1 : Int32) else 0) else 0)), .unset] []))
          refine own_st (fun _ k => XS.iload X377.here hx rfl (hb hby at_204) rfl k) ?_
          show own_Go p e below s _ _ _ (T377.setTop (mkF m 206 #[.val (.long p1), .second, .val (.long p2), .second, .val (.int p3), .val (.int p4), .val (.int p5), .val (.ref b186), .val (.ref b209), .val (.int (1 : Int32)), .val (.int p4), .val (.int ((p5 >>> ((2 : Int32) &&& 31)) &&& (3 : Int32))), .val (.ref b186), .val (.ref b355), .val (.ref b366), .val (.int (if b186 = b186 then (if p3 = p3 then (1 : Int32) else 0) else 0)), .unset] [(.int ((p5 >>> ((2 : Int32) &&& 31)) &&& (3 : Int32)))]))
          refine own_st (fun _ k => XT.iconstV X377.here hx rfl (2 : Int32) (hb hby at_206) (by decide) k) ?_
          show own_Go p e below s _ _ _ (T377.setTop (mkF m 207 #[.val (.long p1), .second, .val (.long p2), .second, .val (.int p3), .val (.int p4), .val (.int p5), .val (.ref b186), .val (.ref b209), .val (.int (1 : Int32)), .val (.int p4), .val (.int ((p5 >>> ((2 : Int32) &&& 31)) &&& (3 : Int32))), .val (.ref b186), .val (.ref b355), .val (.ref b366), .val (.int (if b186 = b186 then (if p3 = p3 then (1 : Int32) else 0) else 0)), .unset] [(.int (2 : Int32)), (.int ((p5 >>> ((2 : Int32) &&& 31)) &&& (3 : Int32)))]))
          by_cases hc396 : ((p5 >>> ((2 : Int32) &&& 31)) &&& (3 : Int32)) = (2 : Int32)
          · refine own_st (fun _ k => XS.icmpNo X377.here hx rfl (hb hby at_207) rfl (XT.ii_ne_f hc396) k) ?_
            show own_Go p e below s _ _ _ (T377.setTop (mkF m 210 #[.val (.long p1), .second, .val (.long p2), .second, .val (.int p3), .val (.int p4), .val (.int p5), .val (.ref b186), .val (.ref b209), .val (.int (1 : Int32)), .val (.int p4), .val (.int ((p5 >>> ((2 : Int32) &&& 31)) &&& (3 : Int32))), .val (.ref b186), .val (.ref b355), .val (.ref b366), .val (.int (if b186 = b186 then (if p3 = p3 then (1 : Int32) else 0) else 0)), .unset] []))
            refine own_st (fun _ k => XS.iload X377.here hx rfl (hb hby at_210) rfl k) ?_
            show own_Go p e below s _ _ _ (T377.setTop (mkF m 212 #[.val (.long p1), .second, .val (.long p2), .second, .val (.int p3), .val (.int p4), .val (.int p5), .val (.ref b186), .val (.ref b209), .val (.int (1 : Int32)), .val (.int p4), .val (.int ((p5 >>> ((2 : Int32) &&& 31)) &&& (3 : Int32))), .val (.ref b186), .val (.ref b355), .val (.ref b366), .val (.int (if b186 = b186 then (if p3 = p3 then (1 : Int32) else 0) else 0)), .unset] [(.int (if b186 = b186 then (if p3 = p3 then (1 : Int32) else 0) else 0))]))
            refine own_st (fun _ k => XS.ifNo X377.here hx rfl (hb hby at_212) rfl (XT.i0_eq_f (by simp)) k) ?_
            show own_Go p e below s _ _ _ (T377.setTop (mkF m 215 #[.val (.long p1), .second, .val (.long p2), .second, .val (.int p3), .val (.int p4), .val (.int p5), .val (.ref b186), .val (.ref b209), .val (.int (1 : Int32)), .val (.int p4), .val (.int ((p5 >>> ((2 : Int32) &&& 31)) &&& (3 : Int32))), .val (.ref b186), .val (.ref b355), .val (.ref b366), .val (.int (if b186 = b186 then (if p3 = p3 then (1 : Int32) else 0) else 0)), .unset] []))
            refine own_st (fun _ k => XS.aload X377.here hx rfl (hb hby at_215) rfl rfl k) ?_
            show own_Go p e below s _ _ _ (T377.setTop (mkF m 217 #[.val (.long p1), .second, .val (.long p2), .second, .val (.int p3), .val (.int p4), .val (.int p5), .val (.ref b186), .val (.ref b209), .val (.int (1 : Int32)), .val (.int p4), .val (.int ((p5 >>> ((2 : Int32) &&& 31)) &&& (3 : Int32))), .val (.ref b186), .val (.ref b355), .val (.ref b366), .val (.int (if b186 = b186 then (if p3 = p3 then (1 : Int32) else 0) else 0)), .unset] [(.ref b355)]))
            refine own_st (fun _ k => XS.iload X377.here hx rfl (hb hby at_217) rfl k) ?_
            show own_Go p e below s _ _ _ (T377.setTop (mkF m 219 #[.val (.long p1), .second, .val (.long p2), .second, .val (.int p3), .val (.int p4), .val (.int p5), .val (.ref b186), .val (.ref b209), .val (.int (1 : Int32)), .val (.int p4), .val (.int ((p5 >>> ((2 : Int32) &&& 31)) &&& (3 : Int32))), .val (.ref b186), .val (.ref b355), .val (.ref b366), .val (.int (if b186 = b186 then (if p3 = p3 then (1 : Int32) else 0) else 0)), .unset] [(.int p3), (.ref b355)]))
            have O398 : Old Z n0 T371.heap := ((((((((O0.ext E186).keep K198 (allS g188 all0)).ext E209).keep K221 (allS g211 all0)).ext E355).keep K360 (allS g357 all0)).ext E366).keep K371 (allS g368 all0))
            obtain ⟨_, _, ⟨T397, L397, k397, n397⟩, -, X397, ⟨Lc397, hQ397, l397, y397, z397⟩, st397⟩ := Jvm.LawKit.callS X377 hx (y := (⟨"java/lang/Integer", "valueOf", "(I)Ljava/lang/Integer;"⟩ : MethodName)) hown (mvT hZ (hw _ (List.mem_of_getElem? (i := 55) rfl))) (mvT hZ (hw _ (List.mem_of_getElem? (i := 56) rfl))) (mvT hZ (hw _ (List.mem_of_getElem? (i := 57) rfl))) (mvT hZ (hw _ (List.mem_of_getElem? (i := 58) rfl))) (by decide) (backOf (W := 1) (own_rm_valueOfI l Z a0 hw [] p3 a_cacheI T371.heap n0 Zs376 O398 S_cacheI BxI S_high) hZ (hw _ (List.mem_of_getElem? (i := 58) rfl)) (hw _ (List.mem_of_getElem? (i := 57) rfl)) (by decide) (by decide)) (g := (mkF m 219 #[.val (.long p1), .second, .val (.long p2), .second, .val (.int p3), .val (.int p4), .val (.int p5), .val (.ref b186), .val (.ref b209), .val (.int (1 : Int32)), .val (.int p4), .val (.int ((p5 >>> ((2 : Int32) &&& 31)) &&& (3 : Int32))), .val (.ref b186), .val (.ref b355), .val (.ref b366), .val (.int (if b186 = b186 then (if p3 = p3 then (1 : Int32) else 0) else 0)), .unset] [(.int p3), (.ref b355)])) rfl (by rw [hml]; rfl) (argsL := [(.int p3)]) (rest := [(.ref b355)]) (lenOf own_pd5 rfl) rfl (by show 2 * 0 + _ ≤ _; exact Nat.le_of_eq rfl) (hb hby at_219) (fun _ _ => ⟨rfl, eh377, (by decide : 18 + 1 ≤ _), (by decide : 220 + 1 ≤ _)⟩)
            dsimp only [Pt.U, Pt.locs, Pt.cells, Pt.slots] at X397 l397 y397 z397 st397 hQ397
            subst l397 y397 z397
            obtain ⟨x399, N397q, rfl, K397, q400, q401⟩ := hQ397
            have N402 := Fr.app N382 N397q
            refine own_st st397 ?_
            have Zs403 : n0 ≤ T397.heap.size := Nat.le_trans Zs376 K397.1
            show own_Go p e below s _ _ _ (T397.setTop (mkF m 222 #[.val (.long p1), .second, .val (.long p2), .second, .val (.int p3), .val (.int p4), .val (.int p5), .val (.ref b186), .val (.ref b209), .val (.int (1 : Int32)), .val (.int p4), .val (.int ((p5 >>> ((2 : Int32) &&& 31)) &&& (3 : Int32))), .val (.ref b186), .val (.ref b355), .val (.ref b366), .val (.int (if b186 = b186 then (if p3 = p3 then (1 : Int32) else 0) else 0)), .unset] [(.ref x399), (.ref b355)]))
            have F405 : Exa Z T397.heap b355 "com/example/treeloom/treeloom/xdm/Node" := (F378.keep K397)
            obtain ⟨cq404, kq404, q404a, q404b, q404c⟩ := isOf hZ rfl F405
            obtain ⟨_, _, ⟨T404, L404, k404, n404⟩, -, X404, ⟨Lc404, hQ404, l404, y404, z404⟩, st404⟩ := X397.virtualBack hx (y := (⟨"com/example/treeloom/treeloom/xdm/Node", "equals", "(Ljava/lang/Object;)Z"⟩ : MethodName)) (z := (⟨"com/example/treeloom/treeloom/xdm/Node", "equals", "(Ljava/lang/Object;)Z"⟩ : MethodName)) hown (mvT hZ (hw _ (List.mem_of_getElem? (i := 48) rfl))) (mvT hZ (hw _ (List.mem_of_getElem? (i := 49) rfl))) (notFace_of_selects (args := #[]) (mvT hZ (hw _ (List.mem_of_getElem? (i := 51) rfl)))) (mvT hZ (hw _ (List.mem_of_getElem? (i := 51) rfl))) (mvT hZ (hw _ (List.mem_of_getElem? (i := 50) rfl))) (by decide) (backOf (W := 0) (own_rm_eqI l Z a0 hw [] b355 x399 T397.heap n0 Zs403 q400) hZ (hw _ (List.mem_of_getElem? (i := 52) rfl)) (hw _ (List.mem_of_getElem? (i := 35) rfl)) (by decide) (by decide)) q404a q404c (g := (mkF m 222 #[.val (.long p1), .second, .val (.long p2), .second, .val (.int p3), .val (.int p4), .val (.int p5), .val (.ref b186), .val (.ref b209), .val (.int (1 : Int32)), .val (.int p4), .val (.int ((p5 >>> ((2 : Int32) &&& 31)) &&& (3 : Int32))), .val (.ref b186), .val (.ref b355), .val (.ref b366), .val (.int (if b186 = b186 then (if p3 = p3 then (1 : Int32) else 0) else 0)), .unset] [(.ref x399), (.ref b355)])) rfl (by rw [hml]; rfl) (Steps.refl _) (argsL := [(.ref x399)]) (rest := []) (lenOf own_pd4 rfl) rfl (by show 2 * 0 + _ ≤ _; exact Nat.le_of_eq rfl) (hb hby at_222) (fun _ _ => ⟨rfl, rfl, (by decide : 19 + 0 ≤ _), (by decide : 221 + 0 ≤ _)⟩)
            dsimp only [Pt.U, Pt.locs, Pt.cells, Pt.slots] at X404 l404 y404 z404 st404 hQ404
            subst l404 y404 z404
            obtain ⟨N404q, rfl, eh404⟩ := hQ404
            have N406 := Fr.app N402 N404q
            refine own_tr st404 ?_
            show own_Go p e below s _ _ _ (T404.setTop (mkF m 225 #[.val (.long p1), .second, .val (.long p2), .second, .val (.int p3), .val (.int p4), .val (.int p5), .val (.ref b186), .val (.ref b209), .val (.int (1 : Int32)), .val (.int p4), .val (.int ((p5 >>> ((2 : Int32) &&& 31)) &&& (3 : Int32))), .val (.ref b186), .val (.ref b355), .val (.ref b366), .val (.int (if b186 = b186 then (if p3 = p3 then (1 : Int32) else 0) else 0)), .unset] [(.int (0 : Int32))]))
            refine own_st (fun _ k => XS.ifNo X404.here hx rfl (hb hby at_225) rfl (XT.i0_ne_f (by decide)) k) ?_
            show own_Go p e below s _ _ _ (T404.setTop (mkF m 228 #[.val (.long p1), .second, .val (.long p2), .second, .val (.int p3), .val (.int p4), .val (.int p5), .val (.ref b186), .val (.ref b209), .val (.int (1 : Int32)), .val (.int p4), .val (.int ((p5 >>> ((2 : Int32) &&& 31)) &&& (3 : Int32))), .val (.ref b186), .val (.ref b355), .val (.ref b366), .val (.int (if b186 = b186 then (if p3 = p3 then (1 : Int32) else 0) else 0)), .unset] []))
            refine own_st (fun _ k => XT.iconstV X404.here hx rfl (1 : Int32) (hb hby at_228) (by decide) k) ?_
            show own_Go p e below s _ _ _ (T404.setTop (mkF m 229 #[.val (.long p1), .second, .val (.long p2), .second, .val (.int p3), .val (.int p4), .val (.int p5), .val (.ref b186), .val (.ref b209), .val (.int (1 : Int32)), .val (.int p4), .val (.int ((p5 >>> ((2 : Int32) &&& 31)) &&& (3 : Int32))), .val (.ref b186), .val (.ref b355), .val (.ref b366), .val (.int (if b186 = b186 then (if p3 = p3 then (1 : Int32) else 0) else 0)), .unset] [(.int (1 : Int32))]))
            refine own_st (fun _ k => XS.goto X404.here hx rfl (pc0 := 229) (pc' := 233) rfl (hb hby at_229) (by decide) (by decide) k) ?_
            show own_Go p e below s _ _ _ (T404.setTop (mkF m 233 #[.val (.long p1), .second, .val (.long p2), .second, .val (.int p3), .val (.int p4), .val (.int p5), .val (.ref b186), .val (.ref b209), .val (.int (1 : Int32)), .val (.int p4), .val (.int ((p5 >>> ((2 : Int32) &&& 31)) &&& (3 : Int32))), .val (.ref b186), .val (.ref b355), .val (.ref b366), .val (.int (if b186 = b186 then (if p3 = p3 then (1 : Int32) else 0) else 0)), .unset] [(.int (1 : Int32))]))
            refine own_st (fun _ k => XS.istore X404.here hx rfl (hb hby at_233) rfl (l' := #[.val (.long p1), .second, .val (.long p2), .second, .val (.int p3), .val (.int p4), .val (.int p5), .val (.ref b186), .val (.ref b209), .val (.int (1 : Int32)), .val (.int p4), .val (.int ((p5 >>> ((2 : Int32) &&& 31)) &&& (3 : Int32))), .val (.ref b186), .val (.ref b355), .val (.ref b366), .val (.int (1 : Int32)), .unset]) rfl k) ?_
            show own_Go p e below s _ _ _ (T404.setTop (mkF m 235 #[.val (.long p1), .second, .val (.long p2), .second, .val (.int p3), .val (.int p4), .val (.int p5), .val (.ref b186), .val (.ref b209), .val (.int (1 : Int32)), .val (.int p4), .val (.int ((p5 >>> ((2 : Int32) &&& 31)) &&& (3 : Int32))), .val (.ref b186), .val (.ref b355), .val (.ref b366), .val (.int (1 : Int32)), .unset] []))
            refine own_st (fun _ k => XS.goto X404.here hx rfl (pc0 := 235) (pc' := 282) rfl (hb hby at_235) (by decide) (by decide) k) ?_
            show own_Go p e below s _ _ _ (T404.setTop (mkF m 282 #[.val (.long p1), .second, .val (.long p2), .second, .val (.int p3), .val (.int p4), .val (.int p5), .val (.ref b186), .val (.ref b209), .val (.int (1 : Int32)), .val (.int p4), .val (.int ((p5 >>> ((2 : Int32) &&& 31)) &&& (3 : Int32))), .val (.ref b186), .val (.ref b355), .val (.ref b366), .val (.int (1 : Int32)), .unset] []))
            refine own_st (fun _ k => XS.iload X404.here hx rfl (hb hby at_282) rfl k) ?_
            show own_Go p e below s _ _ _ (T404.setTop (mkF m 284 #[.val (.long p1), .second, .val (.long p2), .second, .val (.int p3), .val (.int p4), .val (.int p5), .val (.ref b186), .val (.ref b209), .val (.int (1 : Int32)), .val (.int p4), .val (.int ((p5 >>> ((2 : Int32) &&& 31)) &&& (3 : Int32))), .val (.ref b186), .val (.ref b355), .val (.ref b366), .val (.int (1 : Int32)), .unset] [(.int (1 : Int32))]))
            refine own_retN X404 hx hlk Bd.returns (t := .boolean) (z' := (1 : Int32)) (by simp) (by decide) (hb hby at_284) (by decide) (by decide) ?_
            rw [eh404]
            exact ⟨N406, rfl⟩
          · refine own_st (fun _ k => XS.icmpYes X377.here hx rfl (pc0 := 207) (pc' := 238) rfl (hb hby at_207) rfl (XT.ii_ne_t hc396) (by decide) (by decide) k) ?_
            show own_Go p e below s _ _ _ (T377.setTop (mkF m 238 #[.val (.long p1), .second, .val (.long p2), .second, .val (.int p3), .val (.int p4), .val (.int p5), .val (.ref b186), .val (.ref b209), .val (.int (1 : Int32)), .val (.int p4), .val (.int ((p5 >>> ((2 : Int32) &&& 31)) &&& (3 : Int32))), .val (.ref b186), .val (.ref b355), .val (.ref b366), .val (.int (if b186 = b186 then (if p3 = p3 then (1 : Int32) else 0) else 0)), .unset] []))
            refine own_st (fun _ k => XS.iload X377.here hx rfl (hb hby at_238) rfl k) ?_
            show own_Go p e below s _ _ _ (T377.setTop (mkF m 240 #[.val (.long p1), .second, .val (.long p2), .second, .val (.int p3), .val (.int p4), .val (.int p5), .val (.ref b186), .val (.ref b209), .val (.int (1 : Int32)), .val (.int p4), .val (.int ((p5 >>> ((2 : Int32) &&& 31)) &&& (3 : Int32))), .val (.ref b186), .val (.ref b355), .val (.ref b366), .val (.int (if b186 = b186 then (if p3 = p3 then (1 : Int32) else 0) else 0)), .unset] [(.int (1 : Int32))]))
            refine own_st (fun _ k => XS.ifNo X377.here hx rfl (hb hby at_240) rfl (XT.i0_eq_f (by decide)) k) ?_
            show own_Go p e below s _ _ _ (T377.setTop (mkF m 243 #[.val (.long p1), .second, .val (.long p2), .second, .val (.int p3), .val (.int p4), .val (.int p5), .val (.ref b186), .val (.ref b209), .val (.int (1 : Int32)), .val (.int p4), .val (.int ((p5 >>> ((2 : Int32) &&& 31)) &&& (3 : Int32))), .val (.ref b186), .val (.ref b355), .val (.ref b366), .val (.int (if b186 = b186 then (if p3 = p3 then (1 : Int32) else 0) else 0)), .unset] []))
            refine own_st (fun _ k => XS.iload X377.here hx rfl (hb hby at_243) rfl k) ?_
            show own_Go p e below s _ _ _ (T377.setTop (mkF m 245 #[.val (.long p1), .second, .val (.long p2), .second, .val (.int p3), .val (.int p4), .val (.int p5), .val (.ref b186), .val (.ref b209), .val (.int (1 : Int32)), .val (.int p4), .val (.int ((p5 >>> ((2 : Int32) &&& 31)) &&& (3 : Int32))), .val (.ref b186), .val (.ref b355), .val (.ref b366), .val (.int (if b186 = b186 then (if p3 = p3 then (1 : Int32) else 0) else 0)), .unset] [(.int p3)]))
            by_cases hc407 : p3 = 0
            · refine own_st (fun _ k => XS.ifNo X377.here hx rfl (hb hby at_245) rfl (XT.i0_ne_f hc407) k) ?_
              show own_Go p e below s _ _ _ (T377.setTop (mkF m 248 #[.val (.long p1), .second, .val (.long p2), .second, .val (.int p3), .val (.int p4), .val (.int p5), .val (.ref b186), .val (.ref b209), .val (.int (1 : Int32)), .val (.int p4), .val (.int ((p5 >>> ((2 : Int32) &&& 31)) &&& (3 : Int32))), .val (.ref b186), .val (.ref b355), .val (.ref b366), .val (.int (if b186 = b186 then (if p3 = p3 then (1 : Int32) else 0) else 0)), .unset] []))
              refine own_st (fun _ k => XT.iconstV X377.here hx rfl (1 : Int32) (hb hby at_248) (by decide) k) ?_
              show own_Go p e below s _ _ _ (T377.setTop (mkF m 249 #[.val (.long p1), .second, .val (.long p2), .second, .val (.int p3), .val (.int p4), .val (.int p5), .val (.ref b186), .val (.ref b209), .val (.int (1 : Int32)), .val (.int p4), .val (.int ((p5 >>> ((2 : Int32) &&& 31)) &&& (3 : Int32))), .val (.ref b186), .val (.ref b355), .val (.ref b366), .val (.int (if b186 = b186 then (if p3 = p3 then (1 : Int32) else 0) else 0)), .unset] [(.int (1 : Int32))]))
              refine own_st (fun _ k => XS.goto X377.here hx rfl (pc0 := 249) (pc' := 253) rfl (hb hby at_249) (by decide) (by decide) k) ?_
              show own_Go p e below s _ _ _ (T377.setTop (mkF m 253 #[.val (.long p1), .second, .val (.long p2), .second, .val (.int p3), .val (.int p4), .val (.int p5), .val (.ref b186), .val (.ref b209), .val (.int (1 : Int32)), .val (.int p4), .val (.int ((p5 >>> ((2 : Int32) &&& 31)) &&& (3 : Int32))), .val (.ref b186), .val (.ref b355), .val (.ref b366), .val (.int (if b186 = b186 then (if p3 = p3 then (1 : Int32) else 0) else 0)), .unset] [(.int (1 : Int32))]))
              refine own_st (fun _ k => XS.istore X377.here hx rfl (hb hby at_253) rfl (l' := #[.val (.long p1), .second, .val (.long p2), .second, .val (.int p3), .val (.int p4), .val (.int p5), .val (.ref b186), .val (.ref b209), .val (.int (1 : Int32)), .val (.int p4), .val (.int ((p5 >>> ((2 : Int32) &&& 31)) &&& (3 : Int32))), .val (.ref b186), .val (.ref b355), .val (.ref b366), .val (.int (if b186 = b186 then (if p3 = p3 then (1 : Int32) else 0) else 0)), .val (.int (1 : Int32))]) rfl k) ?_
              show own_Go p e below s _ _ _ (T377.setTop (mkF m 255 #[.val (.long p1), .second, .val (.long p2), .second, .val (.int p3), .val (.int p4), .val (.int p5), .val (.ref b186), .val (.ref b209), .val (.int (1 : Int32)), .val (.int p4), .val (.int ((p5 >>> ((2 : Int32) &&& 31)) &&& (3 : Int32))), .val (.ref b186), .val (.ref b355), .val (.ref b366), .val (.int (if b186 = b186 then (if p3 = p3 then (1 : Int32) else 0) else 0)), .val (.int (1 : Int32))] []))
              refine own_st (fun _ k => XS.iload X377.here hx rfl (hb hby at_255) rfl k) ?_
              show own_Go p e below s _ _ _ (T377.setTop (mkF m 257 #[.val (.long p1), .second, .val (.long p2), .second, .val (.int p3), .val (.int p4), .val (.int p5), .val (.ref b186), .val (.ref b209), .val (.int (1 : Int32)), .val (.int p4), .val (.int ((p5 >>> ((2 : Int32) &&& 31)) &&& (3 : Int32))), .val (.ref b186), .val (.ref b355), .val (.ref b366), .val (.int (if b186 = b186 then (if p3 = p3 then (1 : Int32) else 0) else 0)), .val (.int (1 : Int32))] [(.int (if b186 = b186 then (if p3 = p3 then (1 : Int32) else 0) else 0))]))
              refine own_st (fun _ k => XS.ifNo X377.here hx rfl (hb hby at_257) rfl (XT.i0_eq_f (by simp)) k) ?_
              show own_Go p e below s _ _ _ (T377.setTop (mkF m 260 #[.val (.long p1), .second, .val (.long p2), .second, .val (.int p3), .val (.int p4), .val (.int p5), .val (.ref b186), .val (.ref b209), .val (.int (1 : Int32)), .val (.int p4), .val (.int ((p5 >>> ((2 : Int32) &&& 31)) &&& (3 : Int32))), .val (.ref b186), .val (.ref b355), .val (.ref b366), .val (.int (if b186 = b186 then (if p3 = p3 then (1 : Int32) else 0) else 0)), .val (.int (1 : Int32))] []))
              refine own_st (fun _ k => XS.aload X377.here hx rfl (hb hby at_260) rfl rfl k) ?_
              show own_Go p e below s _ _ _ (T377.setTop (mkF m 262 #[.val (.long p1), .second, .val (.long p2), .second, .val (.int p3), .val (.int p4), .val (.int p5), .val (.ref b186), .val (.ref b209), .val (.int (1 : Int32)), .val (.int p4), .val (.int ((p5 >>> ((2 : Int32) &&& 31)) &&& (3 : Int32))), .val (.ref b186), .val (.ref b355), .val (.ref b366), .val (.int (if b186 = b186 then (if p3 = p3 then (1 : Int32) else 0) else 0)), .val (.int (1 : Int32))] [(.ref b355)]))
              refine own_st (fun _ k => XS.aload X377.here hx rfl (hb hby at_262) rfl rfl k) ?_
              show own_Go p e below s _ _ _ (T377.setTop (mkF m 264 #[.val (.long p1), .second, .val (.long p2), .second, .val (.int p3), .val (.int p4), .val (.int p5), .val (.ref b186), .val (.ref b209), .val (.int (1 : Int32)), .val (.int p4), .val (.int ((p5 >>> ((2 : Int32) &&& 31)) &&& (3 : Int32))), .val (.ref b186), .val (.ref b355), .val (.ref b366), .val (.int (if b186 = b186 then (if p3 = p3 then (1 : Int32) else 0) else 0)), .val (.int (1 : Int32))] [(.ref b186), (.ref b355)]))
              have ne408 : b186 ≠ b209 := Nat.ne_of_lt (Nat.lt_of_lt_of_le (Nat.lt_of_lt_of_le A186.lt K198.1) (Nat.le_of_eq g209.symm))
              have ne409 : b186 ≠ b355 := Nat.ne_of_lt (Nat.lt_of_lt_of_le (Nat.lt_of_lt_of_le A186.lt (Nat.le_trans (Nat.le_trans K198.1 E209.1) K221.1)) (Nat.le_of_eq g355.symm))
              have ne410 : b186 ≠ b366 := Nat.ne_of_lt (Nat.lt_of_lt_of_le (Nat.lt_of_lt_of_le A186.lt (Nat.le_trans (Nat.le_trans (Nat.le_trans (Nat.le_trans K198.1 E209.1) K221.1) E355.1) K360.1)) (Nat.le_of_eq g366.symm))
              have F411 : Fld Z T371.heap b186 "com/example/treeloom/treeloom/xdm/Tree" "root" "Lcom/example/treeloom/treeloom/xdm/Node;" (.ref x199) := ((((((q202.ext E209).keep K221 (ninS ne408 nin0)).ext E355).keep K360 (ninS ne409 nin0)).ext E366).keep K371 (ninS ne410 nin0))
              obtain ⟨T412, X412, e412, st412⟩ := getF X377 hx hZ hown (host := "") (Or.inl (hw _ (List.mem_of_getElem? (i := 65) rfl))) Via.refl eh377 F411 (g := (mkF m 264 #[.val (.long p1), .second, .val (.long p2), .second, .val (.int p3), .val (.int p4), .val (.int p5), .val (.ref b186), .val (.ref b209), .val (.int (1 : Int32)), .val (.int p4), .val (.int ((p5 >>> ((2 : Int32) &&& 31)) &&& (3 : Int32))), .val (.ref b186), .val (.ref b355), .val (.ref b366), .val (.int (if b186 = b186 then (if p3 = p3 then (1 : Int32) else 0) else 0)), .val (.int (1 : Int32))] [(.ref b186), (.ref b355)])) rfl rfl (hb hby at_264)
              refine own_st st412 ?_
              show own_Go p e below s _ _ _ (T412.setTop (mkF m 267 #[.val (.long p1), .second, .val (.long p2), .second, .val (.int p3), .val (.int p4), .val (.int p5), .val (.ref b186), .val (.ref b209), .val (.int (1 : Int32)), .val (.int p4), .val (.int ((p5 >>> ((2 : Int32) &&& 31)) &&& (3 : Int32))), .val (.ref b186), .val (.ref b355), .val (.ref b366), .val (.int (if b186 = b186 then (if p3 = p3 then (1 : Int32) else 0) else 0)), .val (.int (1 : Int32))] [(.ref x199), (.ref b355)]))
              have F414 : Exa Z T371.heap x199 "com/example/treeloom/treeloom/xdm/Node" := ((((((q203.ext E209).keep K221).ext E355).keep K360).ext E366).keep K371)
              have ne415 : x199 ≠ b209 := Nat.ne_of_lt (Nat.lt_of_lt_of_le q203.lt (Nat.le_of_eq g209.symm))
              have ne416 : x199 ≠ b355 := Nat.ne_of_lt (Nat.lt_of_lt_of_le (Nat.lt_of_lt_of_le q203.lt (Nat.le_trans E209.1 K221.1)) (Nat.le_of_eq g355.symm))
              have ne417 : x199 ≠ b366 := Nat.ne_of_lt (Nat.lt_of_lt_of_le (Nat.lt_of_lt_of_le q203.lt (Nat.le_trans (Nat.le_trans (Nat.le_trans E209.1 K221.1) E355.1) K360.1)) (Nat.le_of_eq g366.symm))
              have F418 : Fld Z T371.heap x199 "com/example/treeloom/treeloom/xdm/Node" "tree" "Lcom/example/treeloom/treeloom/xdm/Tree;" (.ref b186) := ((((((q204.ext E209).keep K221 (ninS ne415 nin0)).ext E355).keep K360 (ninS ne416 nin0)).ext E366).keep K371 (ninS ne417 nin0))
              have F419 : Fld Z T371.heap x199 "com/example/treeloom/treeloom/xdm/Node" "index" "I" (.int (0 : Int32)) := ((((((q205.ext E209).keep K221 (ninS ne415 nin0)).ext E355).keep K360 (ninS ne416 nin0)).ext E366).keep K371 (ninS ne417 nin0))
              obtain ⟨cq413, kq413, q413a, q413b, q413c⟩ := isOf hZ e412 F378
              obtain ⟨_, _, ⟨T413, L413, k413, n413⟩, -, X413, ⟨Lc413, hQ413, l413, y413, z413⟩, st413⟩ := X412.virtualBack hx (y := (⟨"com/example/treeloom/treeloom/xdm/Node", "equals", "(Ljava/lang/Object;)Z"⟩ : MethodName)) (z := (⟨"com/example/treeloom/treeloom/xdm/Node", "equals", "(Ljava/lang/Object;)Z"⟩ : MethodName)) hown (mvT hZ (hw _ (List.mem_of_getElem? (i := 48) rfl))) (mvT hZ (hw _ (List.mem_of_getElem? (i := 49) rfl))) (notFace_of_selects (args := #[]) (mvT hZ (hw _ (List.mem_of_getElem? (i := 51) rfl)))) (mvT hZ (hw _ (List.mem_of_getElem? (i := 51) rfl))) (mvT hZ (hw _ (List.mem_of_getElem? (i := 50) rfl))) (by decide) (backOf (W := 0) (own_rm_eqO l Z a0 hw [] b355 x199 b186 b186 p3 (0 : Int32) T371.heap n0 Zs376 F414 F380 F381 F418 F419) hZ (hw _ (List.mem_of_getElem? (i := 52) rfl)) (hw _ (List.mem_of_getElem? (i := 35) rfl)) (by decide) (by decide)) q413a q413c (g := (mkF m 267 #[.val (.long p1), .second, .val (.long p2), .second, .val (.int p3), .val (.int p4), .val (.int p5), .val (.ref b186), .val (.ref b209), .val (.int (1 : Int32)), .val (.int p4), .val (.int ((p5 >>> ((2 : Int32) &&& 31)) &&& (3 : Int32))), .val (.ref b186), .val (.ref b355), .val (.ref b366), .val (.int (if b186 = b186 then (if p3 = p3 then (1 : Int32) else 0) else 0)), .val (.int (1 : Int32))] [(.ref x199), (.ref b355)])) rfl (by rw [hml]; rfl) (Steps.refl _) (argsL := [(.ref x199)]) (rest := []) (lenOf own_pd4 rfl) rfl (by show 2 * 0 + _ ≤ _; exact Nat.le_of_eq rfl) (hb hby at_267) (fun _ _ => ⟨rfl, e412, (by decide : 18 + 0 ≤ _), (by decide : 220 + 0 ≤ _)⟩)
              dsimp only [Pt.U, Pt.locs, Pt.cells, Pt.slots] at X413 l413 y413 z413 st413 hQ413
              subst l413 y413 z413
              obtain ⟨N413q, rfl, eh413⟩ := hQ413
              have N420 := Fr.app N382 N413q
              refine own_tr st413 ?_
              show own_Go p e below s _ _ _ (T413.setTop (mkF m 270 #[.val (.long p1), .second, .val (.long p2), .second, .val (.int p3), .val (.int p4), .val (.int p5), .val (.ref b186), .val (.ref b209), .val (.int (1 : Int32)), .val (.int p4), .val (.int ((p5 >>> ((2 : Int32) &&& 31)) &&& (3 : Int32))), .val (.ref b186), .val (.ref b355), .val (.ref b366), .val (.int (if b186 = b186 then (if p3 = p3 then (1 : Int32) else 0) else 0)), .val (.int (1 : Int32))] [(.int (if b186 = b186 then (if p3 = (0 : Int32) then (1 : Int32) else 0) else 0))]))
              refine own_st (fun _ k => XS.iload X413.here hx rfl (hb hby at_270) rfl k) ?_
              show own_Go p e below s _ _ _ (T413.setTop (mkF m 272 #[.val (.long p1), .second, .val (.long p2), .second, .val (.int p3), .val (.int p4), .val (.int p5), .val (.ref b186), .val (.ref b209), .val (.int (1 : Int32)), .val (.int p4), .val (.int ((p5 >>> ((2 : Int32) &&& 31)) &&& (3 : Int32))), .val (.ref b186), .val (.ref b355), .val (.ref b366), .val (.int (if b186 = b186 then (if p3 = p3 then (1 : Int32) else 0) else 0)), .val (.int (1 : Int32))] [(.int (1 : Int32)), (.int (if b186 = b186 then (if p3 = (0 : Int32) then (1 : Int32) else 0) else 0))]))
              refine own_st (fun _ k => XS.icmpNo X413.here hx rfl (hb hby at_272) rfl (XT.ii_ne_f (by simp [hc407])) k) ?_
              show own_Go p e below s _ _ _ (T413.setTop (mkF m 275 #[.val (.long p1), .second, .val (.long p2), .second, .val (.int p3), .val (.int p4), .val (.int p5), .val (.ref b186), .val (.ref b209), .val (.int (1 : Int32)), .val (.int p4), .val (.int ((p5 >>> ((2 : Int32) &&& 31)) &&& (3 : Int32))), .val (.ref b186), .val (.ref b355), .val (.ref b366), .val (.int (if b186 = b186 then (if p3 = p3 then (1 : Int32) else 0) else 0)), .val (.int (1 : Int32))] []))
              refine own_st (fun _ k => XT.iconstV X413.here hx rfl (1 : Int32) (hb hby at_275) (by decide) k) ?_
              show own_Go p e below s _ _ _ (T413.setTop (mkF m 276 #[.val (.long p1), .second, .val (.long p2), .second, .val (.int p3), .val (.int p4), .val (.int p5), .val (.ref b186), .val (.ref b209), .val (.int (1 : Int32)), .val (.int p4), .val (.int ((p5 >>> ((2 : Int32) &&& 31)) &&& (3 : Int32))), .val (.ref b186), .val (.ref b355), .val (.ref b366), .val (.int (if b186 = b186 then (if p3 = p3 then (1 : Int32) else 0) else 0)), .val (.int (1 : Int32))] [(.int (1 : Int32))]))
              refine own_st (fun _ k => XS.goto X413.here hx rfl (pc0 := 276) (pc' := 280) rfl (hb hby at_276) (by decide) (by decide) k) ?_
              show own_Go p e below s _ _ _ (T413.setTop (mkF m 280 #[.val (.long p1), .second, .val (.long p2), .second, .val (.int p3), .val (.int p4), .val (.int p5), .val (.ref b186), .val (.ref b209), .val (.int (1 : Int32)), .val (.int p4), .val (.int ((p5 >>> ((2 : Int32) &&& 31)) &&& (3 : Int32))), .val (.ref b186), .val (.ref b355), .val (.ref b366), .val (.int (if b186 = b186 then (if p3 = p3 then (1 : Int32) else 0) else 0)), .val (.int (1 : Int32))] [(.int (1 : Int32))]))
              refine own_st (fun _ k => XS.istore X413.here hx rfl (hb hby at_280) rfl (l' := #[.val (.long p1), .second, .val (.long p2), .second, .val (.int p3), .val (.int p4), .val (.int p5), .val (.ref b186), .val (.ref b209), .val (.int (1 : Int32)), .val (.int p4), .val (.int ((p5 >>> ((2 : Int32) &&& 31)) &&& (3 : Int32))), .val (.ref b186), .val (.ref b355), .val (.ref b366), .val (.int (1 : Int32)), .val (.int (1 : Int32))]) rfl k) ?_
              show own_Go p e below s _ _ _ (T413.setTop (mkF m 282 #[.val (.long p1), .second, .val (.long p2), .second, .val (.int p3), .val (.int p4), .val (.int p5), .val (.ref b186), .val (.ref b209), .val (.int (1 : Int32)), .val (.int p4), .val (.int ((p5 >>> ((2 : Int32) &&& 31)) &&& (3 : Int32))), .val (.ref b186), .val (.ref b355), .val (.ref b366), .val (.int (1 : Int32)), .val (.int (1 : Int32))] []))
              refine own_st (fun _ k => XS.iload X413.here hx rfl (hb hby at_282) rfl k) ?_
              show own_Go p e below s _ _ _ (T413.setTop (mkF m 284 #[.val (.long p1), .second, .val (.long p2), .second, .val (.int p3), .val (.int p4), .val (.int p5), .val (.ref b186), .val (.ref b209), .val (.int (1 : Int32)), .val (.int p4), .val (.int ((p5 >>> ((2 : Int32) &&& 31)) &&& (3 : Int32))), .val (.ref b186), .val (.ref b355), .val (.ref b366), .val (.int (1 : Int32)), .val (.int (1 : Int32))] [(.int (1 : Int32))]))
              refine own_retN X413 hx hlk Bd.returns (t := .boolean) (z' := (1 : Int32)) (by simp) (by decide) (hb hby at_284) (by decide) (by decide) ?_
              rw [eh413]
              exact ⟨N420, rfl⟩
            · refine own_st (fun _ k => XS.ifYes X377.here hx rfl (pc0 := 245) (pc' := 252) rfl (hb hby at_245) rfl (XT.i0_ne_t hc407) (by decide) (by decide) k) ?_
              show own_Go p e below s _ _ _ (T377.setTop (mkF m 252 #[.val (.long p1), .second, .val (.long p2), .second, .val (.int p3), .val (.int p4), .val (.int p5), .val (.ref b186), .val (.ref b209), .val (.int (1 : Int32)), .val (.int p4), .val (.int ((p5 >>> ((2 : Int32) &&& 31)) &&& (3 : Int32))), .val (.ref b186), .val (.ref b355), .val (.ref b366), .val (.int (if b186 = b186 then (if p3 = p3 then (1 : Int32) else 0) else 0)), .unset] []))
              refine own_st (fun _ k => XT.iconstV X377.here hx rfl (0 : Int32) (hb hby at_252) (by decide) k) ?_
              show own_Go p e below s _ _ _ (T377.setTop (mkF m 253 #[.val (.long p1), .second, .val (.long p2), .second, .val (.int p3), .val (.int p4), .val (.int p5), .val (.ref b186), .val (.ref b209), .val (.int (1 : Int32)), .val (.int p4), .val (.int ((p5 >>> ((2 : Int32) &&& 31)) &&& (3 : Int32))), .val (.ref b186), .val (.ref b355), .val (.ref b366), .val (.int (if b186 = b186 then (if p3 = p3 then (1 : Int32) else 0) else 0)), .unset] [(.int (0 : Int32))]))
              refine own_st (fun _ k => XS.istore X377.here hx rfl (hb hby at_253) rfl (l' := #[.val (.long p1), .second, .val (.long p2), .second, .val (.int p3), .val (.int p4), .val (.int p5), .val (.ref b186), .val (.ref b209), .val (.int (1 : Int32)), .val (.int p4), .val (.int ((p5 >>> ((2 : Int32) &&& 31)) &&& (3 : Int32))), .val (.ref b186), .val (.ref b355), .val (.ref b366), .val (.int (if b186 = b186 then (if p3 = p3 then (1 : Int32) else 0) else 0)), .val (.int (0 : Int32))]) rfl k) ?_
              show own_Go p e below s _ _ _ (T377.setTop (mkF m 255 #[.val (.long p1), .second, .val (.long p2), .second, .val (.int p3), .val (.int p4), .val (.int p5), .val (.ref b186), .val (.ref b209), .val (.int (1 : Int32)), .val (.int p4), .val (.int ((p5 >>> ((2 : Int32) &&& 31)) &&& (3 : Int32))), .val (.ref b186), .val (.ref b355), .val (.ref b366), .val (.int (if b186 = b186 then (if p3 = p3 then (1 : Int32) else 0) else 0)), .val (.int (0 : Int32))] []))
              refine own_st (fun _ k => XS.iload X377.here hx rfl (hb hby at_255) rfl k) ?_
              show own_Go p e below s _ _ _ (T377.setTop (mkF m 257 #[.val (.long p1), .second, .val (.long p2), .second, .val (.int p3), .val (.int p4), .val (.int p5), .val (.ref b186), .val (.ref b209), .val (.int (1 : Int32)), .val (.int p4), .val (.int ((p5 >>> ((2 : Int32) &&& 31)) &&& (3 : Int32))), .val (.ref b186), .val (.ref b355), .val (.ref b366), .val (.int (if b186 = b186 then (if p3 = p3 then (1 : Int32) else 0) else 0)), .val (.int (0 : Int32))] [(.int (if b186 = b186 then (if p3 = p3 then (1 : Int32) else 0) else 0))]))
              refine own_st (fun _ k => XS.ifNo X377.here hx rfl (hb hby at_257) rfl (XT.i0_eq_f (by simp)) k) ?_
              show own_Go p e below s _ _ _ (T377.setTop (mkF m 260 #[.val (.long p1), .second, .val (.long p2), .second, .val (.int p3), .val (.int p4), .val (.int p5), .val (.ref b186), .val (.ref b209), .val (.int (1 : Int32)), .val (.int p4), .val (.int ((p5 >>> ((2 : Int32) &&& 31)) &&& (3 : Int32))), .val (.ref b186), .val (.ref b355), .val (.ref b366), .val (.int (if b186 = b186 then (if p3 = p3 then (1 : Int32) else 0) else 0)), .val (.int (0 : Int32))] []))
              refine own_st (fun _ k => XS.aload X377.here hx rfl (hb hby at_260) rfl rfl k) ?_
              show own_Go p e below s _ _ _ (T377.setTop (mkF m 262 #[.val (.long p1), .second, .val (.long p2), .second, .val (.int p3), .val (.int p4), .val (.int p5), .val (.ref b186), .val (.ref b209), .val (.int (1 : Int32)), .val (.int p4), .val (.int ((p5 >>> ((2 : Int32) &&& 31)) &&& (3 : Int32))), .val (.ref b186), .val (.ref b355), .val (.ref b366), .val (.int (if b186 = b186 then (if p3 = p3 then (1 : Int32) else 0) else 0)), .val (.int (0 : Int32))] [(.ref b355)]))
              refine own_st (fun _ k => XS.aload X377.here hx rfl (hb hby at_262) rfl rfl k) ?_
              show own_Go p e below s _ _ _ (T377.setTop (mkF m 264 #[.val (.long p1), .second, .val (.long p2), .second, .val (.int p3), .val (.int p4), .val (.int p5), .val (.ref b186), .val (.ref b209), .val (.int (1 : Int32)), .val (.int p4), .val (.int ((p5 >>> ((2 : Int32) &&& 31)) &&& (3 : Int32))), .val (.ref b186), .val (.ref b355), .val (.ref b366), .val (.int (if b186 = b186 then (if p3 = p3 then (1 : Int32) else 0) else 0)), .val (.int (0 : Int32))] [(.ref b186), (.ref b355)]))
              have ne421 : b186 ≠ b209 := Nat.ne_of_lt (Nat.lt_of_lt_of_le (Nat.lt_of_lt_of_le A186.lt K198.1) (Nat.le_of_eq g209.symm))
              have ne422 : b186 ≠ b355 := Nat.ne_of_lt (Nat.lt_of_lt_of_le (Nat.lt_of_lt_of_le A186.lt (Nat.le_trans (Nat.le_trans K198.1 E209.1) K221.1)) (Nat.le_of_eq g355.symm))
              have ne423 : b186 ≠ b366 := Nat.ne_of_lt (Nat.lt_of_lt_of_le (Nat.lt_of_lt_of_le A186.lt (Nat.le_trans (Nat.le_trans (Nat.le_trans (Nat.le_trans K198.1 E209.1) K221.1) E355.1) K360.1)) (Nat.le_of_eq g366.symm))
              have F424 : Fld Z T371.heap b186 "com/example/treeloom/treeloom/xdm/Tree" "root" "Lcom/example/treeloom/treeloom/xdm/Node;" (.ref x199) := ((((((q202.ext E209).keep K221 (ninS ne421 nin0)).ext E355).keep K360 (ninS ne422 nin0)).ext E366).keep K371 (ninS ne423 nin0))
              obtain ⟨T425, X425, e425, st425⟩ := getF X377 hx hZ hown (host := "") (Or.inl (hw _ (List.mem_of_getElem? (i := 65) rfl))) Via.refl eh377 F424 (g := (mkF m 264 #[.val (.long p1), .second, .val (.long p2), .second, .val (.int p3), .val (.int p4), .val (.int p5), .val (.ref b186), .val (.ref b209), .val (.int (1 : Int32)), .val (.int p4), .val (.int ((p5 >>> ((2 : Int32) &&& 31)) &&& (3 : Int32))), .val (.ref b186), .val (.ref b355), .val (.ref b366), .val (.int (if b186 = b186 then (if p3 = p3 then (1 : Int32) else 0) else 0)), .val (.int (0 : Int32))] [(.ref b186), (.ref b355)])) rfl rfl (hb hby at_264)
              refine own_st st425 ?_
              show own_Go p e below s _ _ _ (T425.setTop (mkF m 267 #[.val (.long p1), .second, .val (.long p2), .second, .val (.int p3), .val (.int p4), .val (.int p5), .val (.ref b186), .val (.ref b209), .val (.int (1 : Int32)), .val (.int p4), .val (.int ((p5 >>> ((2 : Int32) &&& 31)) &&& (3 : Int32))), .val (.ref b186), .val (.ref b355), .val (.ref b366), .val (.int (if b186 = b186 then (if p3 = p3 then (1 : Int32) else 0) else 0)), .val (.int (0 : Int32))] [(.ref x199), (.ref b355)]))
              have F427 : Exa Z T371.heap x199 "com/example/treeloom/treeloom/xdm/Node" := ((((((q203.ext E209).keep K221).ext E355).keep K360).ext E366).keep K371)
              have ne428 : x199 ≠ b209 := Nat.ne_of_lt (Nat.lt_of_lt_of_le q203.lt (Nat.le_of_eq g209.symm))
              have ne429 : x199 ≠ b355 := Nat.ne_of_lt (Nat.lt_of_lt_of_le (Nat.lt_of_lt_of_le q203.lt (Nat.le_trans E209.1 K221.1)) (Nat.le_of_eq g355.symm))
              have ne430 : x199 ≠ b366 := Nat.ne_of_lt (Nat.lt_of_lt_of_le (Nat.lt_of_lt_of_le q203.lt (Nat.le_trans (Nat.le_trans (Nat.le_trans E209.1 K221.1) E355.1) K360.1)) (Nat.le_of_eq g366.symm))
              have F431 : Fld Z T371.heap x199 "com/example/treeloom/treeloom/xdm/Node" "tree" "Lcom/example/treeloom/treeloom/xdm/Tree;" (.ref b186) := ((((((q204.ext E209).keep K221 (ninS ne428 nin0)).ext E355).keep K360 (ninS ne429 nin0)).ext E366).keep K371 (ninS ne430 nin0))
              have F432 : Fld Z T371.heap x199 "com/example/treeloom/treeloom/xdm/Node" "index" "I" (.int (0 : Int32)) := ((((((q205.ext E209).keep K221 (ninS ne428 nin0)).ext E355).keep K360 (ninS ne429 nin0)).ext E366).keep K371 (ninS ne430 nin0))
              obtain ⟨cq426, kq426, q426a, q426b, q426c⟩ := isOf hZ e425 F378
              obtain ⟨_, _, ⟨T426, L426, k426, n426⟩, -, X426, ⟨Lc426, hQ426, l426, y426, z426⟩, st426⟩ := X425.virtualBack hx (y := (⟨"com/example/treeloom/treeloom/xdm/Node", "equals", "(Ljava/lang/Object;)Z"⟩ : MethodName)) (z := (⟨"com/example/treeloom/treeloom/xdm/Node", "equals", "(Ljava/lang/Object;)Z"⟩ : MethodName)) hown (mvT hZ (hw _ (List.mem_of_getElem? (i := 48) rfl))) (mvT hZ (hw _ (List.mem_of_getElem? (i := 49) rfl))) (notFace_of_selects (args := #[]) (mvT hZ (hw _ (List.mem_of_getElem? (i := 51) rfl)))) (mvT hZ (hw _ (List.mem_of_getElem? (i := 51) rfl))) (mvT hZ (hw _ (List.mem_of_getElem? (i := 50) rfl))) (by decide) (backOf (W := 0) (own_rm_eqO l Z a0 hw [] b355 x199 b186 b186 p3 (0 : Int32) T371.heap n0 Zs376 F427 F380 F381 F431 F432) hZ (hw _ (List.mem_of_getElem? (i := 52) rfl)) (hw _ (List.mem_of_getElem? (i := 35) rfl)) (by decide) (by decide)) q426a q426c (g := (mkF m 267 #[.val (.long p1), .second, .val (.long p2), .second, .val (.int p3), .val (.int p4), .val (.int p5), .val (.ref b186), .val (.ref b209), .val (.int (1 : Int32)), .val (.int p4), .val (.int ((p5 >>> ((2 : Int32) &&& 31)) &&& (3 : Int32))), .val (.ref b186), .val (.ref b355), .val (.ref b366), .val (.int (if b186 = b186 then (if p3 = p3 then (1 : Int32) else 0) else 0)), .val (.int (0 : Int32))] [(.ref x199), (.ref b355)])) rfl (by rw [hml]; rfl) (Steps.refl _) (argsL := [(.ref x199)]) (rest := []) (lenOf own_pd4 rfl) rfl (by show 2 * 0 + _ ≤ _; exact Nat.le_of_eq rfl) (hb hby at_267) (fun _ _ => ⟨rfl, e425, (by decide : 18 + 0 ≤ _), (by decide : 220 + 0 ≤ _)⟩)
              dsimp only [Pt.U, Pt.locs, Pt.cells, Pt.slots] at X426 l426 y426 z426 st426 hQ426
              subst l426 y426 z426
              obtain ⟨N426q, rfl, eh426⟩ := hQ426
              have N433 := Fr.app N382 N426q
              refine own_tr st426 ?_
              show own_Go p e below s _ _ _ (T426.setTop (mkF m 270 #[.val (.long p1), .second, .val (.long p2), .second, .val (.int p3), .val (.int p4), .val (.int p5), .val (.ref b186), .val (.ref b209), .val (.int (1 : Int32)), .val (.int p4), .val (.int ((p5 >>> ((2 : Int32) &&& 31)) &&& (3 : Int32))), .val (.ref b186), .val (.ref b355), .val (.ref b366), .val (.int (if b186 = b186 then (if p3 = p3 then (1 : Int32) else 0) else 0)), .val (.int (0 : Int32))] [(.int (if b186 = b186 then (if p3 = (0 : Int32) then (1 : Int32) else 0) else 0))]))
              refine own_st (fun _ k => XS.iload X426.here hx rfl (hb hby at_270) rfl k) ?_
              show own_Go p e below s _ _ _ (T426.setTop (mkF m 272 #[.val (.long p1), .second, .val (.long p2), .second, .val (.int p3), .val (.int p4), .val (.int p5), .val (.ref b186), .val (.ref b209), .val (.int (1 : Int32)), .val (.int p4), .val (.int ((p5 >>> ((2 : Int32) &&& 31)) &&& (3 : Int32))), .val (.ref b186), .val (.ref b355), .val (.ref b366), .val (.int (if b186 = b186 then (if p3 = p3 then (1 : Int32) else 0) else 0)), .val (.int (0 : Int32))] [(.int (0 : Int32)), (.int (if b186 = b186 then (if p3 = (0 : Int32) then (1 : Int32) else 0) else 0))]))
              refine own_st (fun _ k => XS.icmpNo X426.here hx rfl (hb hby at_272) rfl (XT.ii_ne_f (by simp [hc407, (show ¬ (0 = p3) from fun q => hc407 q.symm)])) k) ?_
              show own_Go p e below s _ _ _ (T426.setTop (mkF m 275 #[.val (.long p1), .second, .val (.long p2), .second, .val (.int p3), .val (.int p4), .val (.int p5), .val (.ref b186), .val (.ref b209), .val (.int (1 : Int32)), .val (.int p4), .val (.int ((p5 >>> ((2 : Int32) &&& 31)) &&& (3 : Int32))), .val (.ref b186), .val (.ref b355), .val (.ref b366), .val (.int (if b186 = b186 then (if p3 = p3 then (1 : Int32) else 0) else 0)), .val (.int (0 : Int32))] []))
              refine own_st (fun _ k => XT.iconstV X426.here hx rfl (1 : Int32) (hb hby at_275) (by decide) k) ?_
              show own_Go p e below s _ _ _ (T426.setTop (mkF m 276 #[.val (.long p1), .second, .val (.long p2), .second, .val (.int p3), .val (.int p4), .val (.int p5), .val (.ref b186), .val (.ref b209), .val (.int (1 : Int32)), .val (.int p4), .val (.int ((p5 >>> ((2 : Int32) &&& 31)) &&& (3 : Int32))), .val (.ref b186), .val (.ref b355), .val (.ref b366), .val (.int (if b186 = b186 then (if p3 = p3 then (1 : Int32) else 0) else 0)), .val (.int (0 : Int32))] [(.int (1 : Int32))]))
              refine own_st (fun _ k => XS.goto X426.here hx rfl (pc0 := 276) (pc' := 280) rfl (hb hby at_276) (by decide) (by decide) k) ?_
              show own_Go p e below s _ _ _ (T426.setTop (mkF m 280 #[.val (.long p1), .second, .val (.long p2), .second, .val (.int p3), .val (.int p4), .val (.int p5), .val (.ref b186), .val (.ref b209), .val (.int (1 : Int32)), .val (.int p4), .val (.int ((p5 >>> ((2 : Int32) &&& 31)) &&& (3 : Int32))), .val (.ref b186), .val (.ref b355), .val (.ref b366), .val (.int (if b186 = b186 then (if p3 = p3 then (1 : Int32) else 0) else 0)), .val (.int (0 : Int32))] [(.int (1 : Int32))]))
              refine own_st (fun _ k => XS.istore X426.here hx rfl (hb hby at_280) rfl (l' := #[.val (.long p1), .second, .val (.long p2), .second, .val (.int p3), .val (.int p4), .val (.int p5), .val (.ref b186), .val (.ref b209), .val (.int (1 : Int32)), .val (.int p4), .val (.int ((p5 >>> ((2 : Int32) &&& 31)) &&& (3 : Int32))), .val (.ref b186), .val (.ref b355), .val (.ref b366), .val (.int (1 : Int32)), .val (.int (0 : Int32))]) rfl k) ?_
              show own_Go p e below s _ _ _ (T426.setTop (mkF m 282 #[.val (.long p1), .second, .val (.long p2), .second, .val (.int p3), .val (.int p4), .val (.int p5), .val (.ref b186), .val (.ref b209), .val (.int (1 : Int32)), .val (.int p4), .val (.int ((p5 >>> ((2 : Int32) &&& 31)) &&& (3 : Int32))), .val (.ref b186), .val (.ref b355), .val (.ref b366), .val (.int (1 : Int32)), .val (.int (0 : Int32))] []))
              refine own_st (fun _ k => XS.iload X426.here hx rfl (hb hby at_282) rfl k) ?_
              show own_Go p e below s _ _ _ (T426.setTop (mkF m 284 #[.val (.long p1), .second, .val (.long p2), .second, .val (.int p3), .val (.int p4), .val (.int p5), .val (.ref b186), .val (.ref b209), .val (.int (1 : Int32)), .val (.int p4), .val (.int ((p5 >>> ((2 : Int32) &&& 31)) &&& (3 : Int32))), .val (.ref b186), .val (.ref b355), .val (.ref b366), .val (.int (1 : Int32)), .val (.int (0 : Int32))] [(.int (1 : Int32))]))
              refine own_retN X426 hx hlk Bd.returns (t := .boolean) (z' := (1 : Int32)) (by simp) (by decide) (hb hby at_284) (by decide) (by decide) ?_
              rw [eh426]
              exact ⟨N433, rfl⟩
    · refine own_st (fun _ k => XS.ifNo X221.here hx rfl (hb hby at_42) rfl (XT.i0_eq_f hc354) k) ?_
      show own_Go p e below s _ _ _ (T221.setTop (mkF m 45 #[.val (.long p1), .second, .val (.long p2), .second, .val (.int p3), .val (.int p4), .val (.int p5), .val (.ref b186), .val (.ref b209), .val (.int (1 : Int32)), .unset, .unset, .unset, .unset, .unset, .unset, .unset] []))
      refine own_st (fun _ k => XS.iload X221.here hx rfl (hb hby at_45) rfl k) ?_
      show own_Go p e below s _ _ _ (T221.setTop (mkF m 47 #[.val (.long p1), .second, .val (.long p2), .second, .val (.int p3), .val (.int p4), .val (.int p5), .val (.ref b186), .val (.ref b209), .val (.int (1 : Int32)), .unset, .unset, .unset, .unset, .unset, .unset, .unset] [(.int p3)]))
      refine own_st (fun _ k => XS.goto X221.here hx rfl (pc0 := 47) (pc' := 52) rfl (hb hby at_47) (by decide) (by decide) k) ?_
      show own_Go p e below s _ _ _ (T221.setTop (mkF m 52 #[.val (.long p1), .second, .val (.long p2), .second, .val (.int p3), .val (.int p4), .val (.int p5), .val (.ref b186), .val (.ref b209), .val (.int (1 : Int32)), .unset, .unset, .unset, .unset, .unset, .unset, .unset] [(.int p3)]))
      refine own_st (fun _ k => XS.istore X221.here hx rfl (hb hby at_52) rfl (l' := #[.val (.long p1), .second, .val (.long p2), .second, .val (.int p3), .val (.int p4), .val (.int p5), .val (.ref b186), .val (.ref b209), .val (.int (1 : Int32)), .val (.int p3), .unset, .unset, .unset, .unset, .unset, .unset]) rfl k) ?_
      show own_Go p e below s _ _ _ (T221.setTop (mkF m 54 #[.val (.long p1), .second, .val (.long p2), .second, .val (.int p3), .val (.int p4), .val (.int p5), .val (.ref b186), .val (.ref b209), .val (.int (1 : Int32)), .val (.int p3), .unset, .unset, .unset, .unset, .unset, .unset] []))
      refine own_st (fun _ k => XS.iload X221.here hx rfl (hb hby at_54) rfl k) ?_
      show own_Go p e below s _ _ _ (T221.setTop (mkF m 56 #[.val (.long p1), .second, .val (.long p2), .second, .val (.int p3), .val (.int p4), .val (.int p5), .val (.ref b186), .val (.ref b209), .val (.int (1 : Int32)), .val (.int p3), .unset, .unset, .unset, .unset, .unset, .unset] [(.int p5)]))
      refine own_st (fun _ k => XT.iconstV X221.here hx rfl (2 : Int32) (hb hby at_56) (by decide) k) ?_
      show own_Go p e below s _ _ _ (T221.setTop (mkF m 57 #[.val (.long p1), .second, .val (.long p2), .second, .val (.int p3), .val (.int p4), .val (.int p5), .val (.ref b186), .val (.ref b209), .val (.int (1 : Int32)), .val (.int p3), .unset, .unset, .unset, .unset, .unset, .unset] [(.int (2 : Int32)), (.int p5)]))
      refine own_st (fun _ k => XT.ishr X221.here hx rfl (hb hby at_57) rfl k) ?_
      show own_Go p e below s _ _ _ (T221.setTop (mkF m 58 #[.val (.long p1), .second, .val (.long p2), .second, .val (.int p3), .val (.int p4), .val (.int p5), .val (.ref b186), .val (.ref b209), .val (.int (1 : Int32)), .val (.int p3), .unset, .unset, .unset, .unset, .unset, .unset] [(.int (p5 >>> ((2 : Int32) &&& 31)))]))
      refine own_st (fun _ k => XT.iconstV X221.here hx rfl (3 : Int32) (hb hby at_58) (by decide) k) ?_
      show own_Go p e below s _ _ _ (T221.setTop (mkF m 59 #[.val (.long p1), .second, .val (.long p2), .second, .val (.int p3), .val (.int p4), .val (.int p5), .val (.ref b186), .val (.ref b209), .val (.int (1 : Int32)), .val (.int p3), .unset, .unset, .unset, .unset, .unset, .unset] [(.int (3 : Int32)), (.int (p5 >>> ((2 : Int32) &&& 31)))]))
      refine own_st (fun _ k => XS.iand X221.here hx rfl (hb hby at_59) rfl k) ?_
      show own_Go p e below s _ _ _ (T221.setTop (mkF m 60 #[.val (.long p1), .second, .val (.long p2), .second, .val (.int p3), .val (.int p4), .val (.int p5), .val (.ref b186), .val (.ref b209), .val (.int (1 : Int32)), .val (.int p3), .unset, .unset, .unset, .unset, .unset, .unset] [(.int ((p5 >>> ((2 : Int32) &&& 31)) &&& (3 : Int32)))]))
      refine own_st (fun _ k => XS.istore X221.here hx rfl (hb hby at_60) rfl (l' := #[.val (.long p1), .second, .val (.long p2), .second, .val (.int p3), .val (.int p4), .val (.int p5), .val (.ref b186), .val (.ref b209), .val (.int (1 : Int32)), .val (.int p3), .val (.int ((p5 >>> ((2 : Int32) &&& 31)) &&& (3 : Int32))), .unset, .unset, .unset, .unset, .unset]) rfl k) ?_
      show own_Go p e below s _ _ _ (T221.setTop (mkF m 62 #[.val (.long p1), .second, .val (.long p2), .second, .val (.int p3), .val (.int p4), .val (.int p5), .val (.ref b186), .val (.ref b209), .val (.int (1 : Int32)), .val (.int p3), .val (.int ((p5 >>> ((2 : Int32) &&& 31)) &&& (3 : Int32))), .unset, .unset, .unset, .unset, .unset] []))
      refine own_st (fun _ k => XS.iload X221.here hx rfl (hb hby at_62) rfl k) ?_
      show own_Go p e below s _ _ _ (T221.setTop (mkF m 64 #[.val (.long p1), .second, .val (.long p2), .second, .val (.int p3), .val (.int p4), .val (.int p5), .val (.ref b186), .val (.ref b209), .val (.int (1 : Int32)), .val (.int p3), .val (.int ((p5 >>> ((2 : Int32) &&& 31)) &&& (3 : Int32))), .unset, .unset, .unset, .unset, .unset] [(.int (1 : Int32))]))
      refine own_st (fun _ k => XS.ifNo X221.here hx rfl (hb hby at_64) rfl (XT.i0_eq_f (by decide)) k) ?_
      show own_Go p e below s _ _ _ (T221.setTop (mkF m 67 #[.val (.long p1), .second, .val (.long p2), .second, .val (.int p3), .val (.int p4), .val (.int p5), .val (.ref b186), .val (.ref b209), .val (.int (1 : Int32)), .val (.int p3), .val (.int ((p5 >>> ((2 : Int32) &&& 31)) &&& (3 : Int32))), .unset, .unset, .unset, .unset, .unset] []))
      refine own_st (fun _ k => XS.aload X221.here hx rfl (hb hby at_67) rfl rfl k) ?_
      show own_Go p e below s _ _ _ (T221.setTop (mkF m 69 #[.val (.long p1), .second, .val (.long p2), .second, .val (.int p3), .val (.int p4), .val (.int p5), .val (.ref b186), .val (.ref b209), .val (.int (1 : Int32)), .val (.int p3), .val (.int ((p5 >>> ((2 : Int32) &&& 31)) &&& (3 : Int32))), .unset, .unset, .unset, .unset, .unset] [(.ref b186)]))
      refine own_st (fun _ k => XS.goto X221.here hx rfl (pc0 := 69) (pc' := 74) rfl (hb hby at_69) (by decide) (by decide) k) ?_
      show own_Go p e below s _ _ _ (T221.setTop (mkF m 74 #[.val (.long p1), .second, .val (.long p2), .second, .val (.int p3), .val (.int p4), .val (.int p5), .val (.ref b186), .val (.ref b209), .val (.int (1 : Int32)), .val (.int p3), .val (.int ((p5 >>> ((2 : Int32) &&& 31)) &&& (3 : Int32))), .unset, .unset, .unset, .unset, .unset] [(.ref b186)]))
      refine own_st (fun _ k => XS.astore X221.here hx rfl (hb hby at_74) rfl rfl (l' := #[.val (.long p1), .second, .val (.long p2), .second, .val (.int p3), .val (.int p4), .val (.int p5), .val (.ref b186), .val (.ref b209), .val (.int (1 : Int32)), .val (.int p3), .val (.int ((p5 >>> ((2 : Int32) &&& 31)) &&& (3 : Int32))), .val (.ref b186), .unset, .unset, .unset, .unset]) rfl k) ?_
      show own_Go p e below s _ _ _ (T221.setTop (mkF m 76 #[.val (.long p1), .second, .val (.long p2), .second, .val (.int p3), .val (.int p4), .val (.int p5), .val (.ref b186), .val (.ref b209), .val (.int (1 : Int32)), .val (.int p3), .val (.int ((p5 >>> ((2 : Int32) &&& 31)) &&& (3 : Int32))), .val (.ref b186), .unset, .unset, .unset, .unset] []))
      obtain ⟨T434, h434, X434, e434, E434, A434, D434, -, st434⟩ := newO X221 hx hZ hown (hw _ (List.mem_of_getElem? (i := 46) rfl)) (hw _ (List.mem_of_getElem? (i := 34) rfl)) (hw _ (List.mem_of_getElem? (i := 35) rfl)) rfl (g := (mkF m 76 #[.val (.long p1), .second, .val (.long p2), .second, .val (.int p3), .val (.int p4), .val (.int p5), .val (.ref b186), .val (.ref b209), .val (.int (1 : Int32)), .val (.int p3), .val (.int ((p5 >>> ((2 : Int32) &&& 31)) &&& (3 : Int32))), .val (.ref b186), .unset, .unset, .unset, .unset] [])) rfl (hb hby at_76) (by decide) (by decide)
      obtain ⟨b434, g434⟩ : ∃ z, z = T221.heap.size := ⟨_, rfl⟩
      rw [← g434] at A434 D434 st434
      refine own_st st434 ?_
      have Zs435 : n0 ≤ h434.size := Nat.le_trans Zs230 E434.1
      have g436 : n0 ≤ b434 := Nat.le_trans Zs230 (Nat.le_of_eq g434.symm)
      have F437 : Fld Z h434 b434 "com/example/treeloom/treeloom/xdm/Node" "tree" "Lcom/example/treeloom/treeloom/xdm/Tree;" .null := D434 (Or.inr (hw _ (List.mem_of_getElem? (i := 41) rfl))) (ty := (.object "com/example/treeloom/treeloom/xdm/Tree")) (by decide)
      have F438 : Fld Z h434 b434 "com/example/treeloom/treeloom/xdm/Node" "index" "I" (.int (0 : Int32)) := D434 (Or.inr (hw _ (List.mem_of_getElem? (i := 43) rfl))) (ty := .int) (by decide)
      show own_Go p e below s _ _ _ (T434.setTop (mkF m 79 #[.val (.long p1), .second, .val (.long p2), .second, .val (.int p3), .val (.int p4), .val (.int p5), .val (.ref b186), .val (.ref b209), .val (.int (1 : Int32)), .val (.int p3), .val (.int ((p5 >>> ((2 : Int32) &&& 31)) &&& (3 : Int32))), .val (.ref b186), .unset, .unset, .unset, .unset] [(.ref b434)]))
      refine own_st (fun _ k => XS.dup X434.here hx rfl (hb hby at_79) rfl rfl k) ?_
      show own_Go p e below s _ _ _ (T434.setTop (mkF m 80 #[.val (.long p1), .second, .val (.long p2), .second, .val (.int p3), .val (.int p4), .val (.int p5), .val (.ref b186), .val (.ref b209), .val (.int (1 : Int32)), .val (.int p3), .val (.int ((p5 >>> ((2 : Int32) &&& 31)) &&& (3 : Int32))), .val (.ref b186), .unset, .unset, .unset, .unset] [(.ref b434), (.ref b434)]))
      refine own_st (fun _ k => XS.aload X434.here hx rfl (hb hby at_80) rfl rfl k) ?_
      show own_Go p e below s _ _ _ (T434.setTop (mkF m 82 #[.val (.long p1), .second, .val (.long p2), .second, .val (.int p3), .val (.int p4), .val (.int p5), .val (.ref b186), .val (.ref b209), .val (.int (1 : Int32)), .val (.int p3), .val (.int ((p5 >>> ((2 : Int32) &&& 31)) &&& (3 : Int32))), .val (.ref b186), .unset, .unset, .unset, .unset] [(.ref b186), (.ref b434), (.ref b434)]))
      refine own_st (fun _ k => XS.iload X434.here hx rfl (hb hby at_82) rfl k) ?_
      show own_Go p e below s _ _ _ (T434.setTop (mkF m 84 #[.val (.long p1), .second, .val (.long p2), .second, .val (.int p3), .val (.int p4), .val (.int p5), .val (.ref b186), .val (.ref b209), .val (.int (1 : Int32)), .val (.int p3), .val (.int ((p5 >>> ((2 : Int32) &&& 31)) &&& (3 : Int32))), .val (.ref b186), .unset, .unset, .unset, .unset] [(.int p3), (.ref b186), (.ref b434), (.ref b434)]))
      obtain ⟨_, _, ⟨T439, L439, k439, n439⟩, -, X439, ⟨Lc439, hQ439, l439, y439, z439⟩, st439⟩ := X434.specialBack hx (y := (⟨"com/example/treeloom/treeloom/xdm/Node", "<init>", "(Lcom/example/treeloom/treeloom/xdm/Tree;I)V"⟩ : MethodName)) rfl hown (mvT hZ (hw _ (List.mem_of_getElem? (i := 47) rfl))) (mvT hZ (hw _ (List.mem_of_getElem? (i := 37) rfl))) (mvT hZ (hw _ (List.mem_of_getElem? (i := 38) rfl))) (by decide) (backOf (W := 1) (own_rm_node l Z a0 hw [] b434 b186 p3 h434 n0 Zs435 A434 F437 F438 g436) hZ (hw _ (List.mem_of_getElem? (i := 38) rfl)) (hw _ (List.mem_of_getElem? (i := 35) rfl)) (by decide) (by decide)) (g := (mkF m 84 #[.val (.long p1), .second, .val (.long p2), .second, .val (.int p3), .val (.int p4), .val (.int p5), .val (.ref b186), .val (.ref b209), .val (.int (1 : Int32)), .val (.int p3), .val (.int ((p5 >>> ((2 : Int32) &&& 31)) &&& (3 : Int32))), .val (.ref b186), .unset, .unset, .unset, .unset] [(.int p3), (.ref b186), (.ref b434), (.ref b434)])) rfl (by rw [hml]; rfl) (Steps.refl _) (a := b434) (argsL := [(.ref b186), (.int p3)]) (rest := [(.ref b434)]) (lenOf own_pd2 rfl) rfl (by show 2 * 0 + _ ≤ _; exact Nat.le_of_eq rfl) (hb hby at_84) (fun _ _ => ⟨rfl, e434, (by decide : 17 + 0 ≤ _), (by decide : 218 + 0 ≤ _)⟩)
      dsimp only [Pt.U, Pt.locs, Pt.cells, Pt.slots] at X439 l439 y439 z439 st439 hQ439
      subst l439 y439 z439
      obtain ⟨N439q, rfl, K439, q440, q441, q442⟩ := hQ439
      have N443 := Fr.app N229 N439q
      refine own_tr st439 ?_
      have Zs444 : n0 ≤ T439.heap.size := Nat.le_trans Zs435 K439.1
      show own_Go p e below s _ _ _ (T439.setTop (mkF m 87 #[.val (.long p1), .second, .val (.long p2), .second, .val (.int p3), .val (.int p4), .val (.int p5), .val (.ref b186), .val (.ref b209), .val (.int (1 : Int32)), .val (.int p3), .val (.int ((p5 >>> ((2 : Int32) &&& 31)) &&& (3 : Int32))), .val (.ref b186), .unset, .unset, .unset, .unset] [(.ref b434)]))
      refine own_st (fun _ k => XS.astore X439.here hx rfl (hb hby at_87) rfl rfl (l' := #[.val (.long p1), .second, .val (.long p2), .second, .val (.int p3), .val (.int p4), .val (.int p5), .val (.ref b186), .val (.ref b209), .val (.int (1 : Int32)), .val (.int p3), .val (.int ((p5 >>> ((2 : Int32) &&& 31)) &&& (3 : Int32))), .val (.ref b186), .val (.ref b434), .unset, .unset, .unset]) rfl k) ?_
      show own_Go p e below s _ _ _ (T439.setTop (mkF m 89 #[.val (.long p1), .second, .val (.long p2), .second, .val (.int p3), .val (.int p4), .val (.int p5), .val (.ref b186), .val (.ref b209), .val (.int (1 : Int32)), .val (.int p3), .val (.int ((p5 >>> ((2 : Int32) &&& 31)) &&& (3 : Int32))), .val (.ref b186), .val (.ref b434), .unset, .unset, .unset] []))
      obtain ⟨T445, h445, X445, e445, E445, A445, D445, -, st445⟩ := newO X439 hx hZ hown (hw _ (List.mem_of_getElem? (i := 46) rfl)) (hw _ (List.mem_of_getElem? (i := 34) rfl)) (hw _ (List.mem_of_getElem? (i := 35) rfl)) rfl (g := (mkF m 89 #[.val (.long p1), .second, .val (.long p2), .second, .val (.int p3), .val (.int p4), .val (.int p5), .val (.ref b186), .val (.ref b209), .val (.int (1 : Int32)), .val (.int p3), .val (.int ((p5 >>> ((2 : Int32) &&& 31)) &&& (3 : Int32))), .val (.ref b186), .val (.ref b434), .unset, .unset, .unset] [])) rfl (hb hby at_89) (by decide) (by decide)
      obtain ⟨b445, g445⟩ : ∃ z, z = T439.heap.size := ⟨_, rfl⟩
      rw [← g445] at A445 D445 st445
      refine own_st st445 ?_
      have Zs446 : n0 ≤ h445.size := Nat.le_trans Zs444 E445.1
      have g447 : n0 ≤ b445 := Nat.le_trans Zs444 (Nat.le_of_eq g445.symm)
      have F448 : Fld Z h445 b445 "com/example/treeloom/treeloom/xdm/Node" "tree" "Lcom/example/treeloom/treeloom/xdm/Tree;" .null := D445 (Or.inr (hw _ (List.mem_of_getElem? (i := 41) rfl))) (ty := (.object "com/example/treeloom/treeloom/xdm/Tree")) (by decide)
      have F449 : Fld Z h445 b445 "com/example/treeloom/treeloom/xdm/Node" "index" "I" (.int (0 : Int32)) := D445 (Or.inr (hw _ (List.mem_of_getElem? (i := 43) rfl))) (ty := .int) (by decide)
      show own_Go p e below s _ _ _ (T445.setTop (mkF m 92 #[.val (.long p1), .second, .val (.long p2), .second, .val (.int p3), .val (.int p4), .val (.int p5), .val (.ref b186), .val (.ref b209), .val (.int (1 : Int32)), .val (.int p3), .val (.int ((p5 >>> ((2 : Int32) &&& 31)) &&& (3 : Int32))), .val (.ref b186), .val (.ref b434), .unset, .unset, .unset] [(.ref b445)]))
      refine own_st (fun _ k => XS.dup X445.here hx rfl (hb hby at_92) rfl rfl k) ?_
      show own_Go p e below s _ _ _ (T445.setTop (mkF m 93 #[.val (.long p1), .second, .val (.long p2), .second, .val (.int p3), .val (.int p4), .val (.int p5), .val (.ref b186), .val (.ref b209), .val (.int (1 : Int32)), .val (.int p3), .val (.int ((p5 >>> ((2 : Int32) &&& 31)) &&& (3 : Int32))), .val (.ref b186), .val (.ref b434), .unset, .unset, .unset] [(.ref b445), (.ref b445)]))
      refine own_st (fun _ k => XS.aload X445.here hx rfl (hb hby at_93) rfl rfl k) ?_
      show own_Go p e below s _ _ _ (T445.setTop (mkF m 95 #[.val (.long p1), .second, .val (.long p2), .second, .val (.int p3), .val (.int p4), .val (.int p5), .val (.ref b186), .val (.ref b209), .val (.int (1 : Int32)), .val (.int p3), .val (.int ((p5 >>> ((2 : Int32) &&& 31)) &&& (3 : Int32))), .val (.ref b186), .val (.ref b434), .unset, .unset, .unset] [(.ref b186), (.ref b445), (.ref b445)]))
      refine own_st (fun _ k => XS.iload X445.here hx rfl (hb hby at_95) rfl k) ?_
      show own_Go p e below s _ _ _ (T445.setTop (mkF m 97 #[.val (.long p1), .second, .val (.long p2), .second, .val (.int p3), .val (.int p4), .val (.int p5), .val (.ref b186), .val (.ref b209), .val (.int (1 : Int32)), .val (.int p3), .val (.int ((p5 >>> ((2 : Int32) &&& 31)) &&& (3 : Int32))), .val (.ref b186), .val (.ref b434), .unset, .unset, .unset] [(.int p3), (.ref b186), (.ref b445), (.ref b445)]))
      obtain ⟨_, _, ⟨T450, L450, k450, n450⟩, -, X450, ⟨Lc450, hQ450, l450, y450, z450⟩, st450⟩ := X445.specialBack hx (y := (⟨"com/example/treeloom/treeloom/xdm/Node", "<init>", "(Lcom/example/treeloom/treeloom/xdm/Tree;I)V"⟩ : MethodName)) rfl hown (mvT hZ (hw _ (List.mem_of_getElem? (i := 47) rfl))) (mvT hZ (hw _ (List.mem_of_getElem? (i := 37) rfl))) (mvT hZ (hw _ (List.mem_of_getElem? (i := 38) rfl))) (by decide) (backOf (W := 1) (own_rm_node l Z a0 hw [] b445 b186 p3 h445 n0 Zs446 A445 F448 F449 g447) hZ (hw _ (List.mem_of_getElem? (i := 38) rfl)) (hw _ (List.mem_of_getElem? (i := 35) rfl)) (by decide) (by decide)) (g := (mkF m 97 #[.val (.long p1), .second, .val (.long p2), .second, .val (.int p3), .val (.int p4), .val (.int p5), .val (.ref b186), .val (.ref b209), .val (.int (1 : Int32)), .val (.int p3), .val (.int ((p5 >>> ((2 : Int32) &&& 31)) &&& (3 : Int32))), .val (.ref b186), .val (.ref b434), .unset, .unset, .unset] [(.int p3), (.ref b186), (.ref b445), (.ref b445)])) rfl (by rw [hml]; rfl) (Steps.refl _) (a := b445) (argsL := [(.ref b186), (.int p3)]) (rest := [(.ref b445)]) (lenOf own_pd2 rfl) rfl (by show 2 * 0 + _ ≤ _; exact Nat.le_of_eq rfl) (hb hby at_97) (fun _ _ => ⟨rfl, e445, (by decide : 18 + 0 ≤ _), (by decide : 220 + 0 ≤ _)⟩)
      dsimp only [Pt.U, Pt.locs, Pt.cells, Pt.slots] at X450 l450 y450 z450 st450 hQ450
      subst l450 y450 z450
      obtain ⟨N450q, rfl, K450, q451, q452, q453⟩ := hQ450
      have N454 := Fr.app N443 N450q
      refine own_tr st450 ?_
      have Zs455 : n0 ≤ T450.heap.size := Nat.le_trans Zs446 K450.1
      show own_Go p e below s _ _ _ (T450.setTop (mkF m 100 #[.val (.long p1), .second, .val (.long p2), .second, .val (.int p3), .val (.int p4), .val (.int p5), .val (.ref b186), .val (.ref b209), .val (.int (1 : Int32)), .val (.int p3), .val (.int ((p5 >>> ((2 : Int32) &&& 31)) &&& (3 : Int32))), .val (.ref b186), .val (.ref b434), .unset, .unset, .unset] [(.ref b445)]))
      refine own_st (fun _ k => XS.astore X450.here hx rfl (hb hby at_100) rfl rfl (l' := #[.val (.long p1), .second, .val (.long p2), .second, .val (.int p3), .val (.int p4), .val (.int p5), .val (.ref b186), .val (.ref b209), .val (.int (1 : Int32)), .val (.int p3), .val (.int ((p5 >>> ((2 : Int32) &&& 31)) &&& (3 : Int32))), .val (.ref b186), .val (.ref b434), .val (.ref b445), .unset, .unset]) rfl k) ?_
      show own_Go p e below s _ _ _ (T450.setTop (mkF m 102 #[.val (.long p1), .second, .val (.long p2), .second, .val (.int p3), .val (.int p4), .val (.int p5), .val (.ref b186), .val (.ref b209), .val (.int (1 : Int32)), .val (.int p3), .val (.int ((p5 >>> ((2 : Int32) &&& 31)) &&& (3 : Int32))), .val (.ref b186), .val (.ref b434), .val (.ref b445), .unset, .unset] []))
      refine own_st (fun _ k => XS.aload X450.here hx rfl (hb hby at_102) rfl rfl k) ?_
      show own_Go p e below s _ _ _ (T450.setTop (mkF m 104 #[.val (.long p1), .second, .val (.long p2), .second, .val (.int p3), .val (.int p4), .val (.int p5), .val (.ref b186), .val (.ref b209), .val (.int (1 : Int32)), .val (.int p3), .val (.int ((p5 >>> ((2 : Int32) &&& 31)) &&& (3 : Int32))), .val (.ref b186), .val (.ref b434), .val (.ref b445), .unset, .unset] [(.ref b434)]))
      refine own_st (fun _ k => XS.aload X450.here hx rfl (hb hby at_104) rfl rfl k) ?_
      show own_Go p e below s _ _ _ (T450.setTop (mkF m 106 #[.val (.long p1), .second, .val (.long p2), .second, .val (.int p3), .val (.int p4), .val (.int p5), .val (.ref b186), .val (.ref b209), .val (.int (1 : Int32)), .val (.int p3), .val (.int ((p5 >>> ((2 : Int32) &&& 31)) &&& (3 : Int32))), .val (.ref b186), .val (.ref b434), .val (.ref b445), .unset, .unset] [(.ref b434), (.ref b434)]))
      have F457 : Exa Z T450.heap b434 "com/example/treeloom/treeloom/xdm/Node" := ((q440.ext E445).keep K450)
      have ne458 : b434 ≠ b445 := Nat.ne_of_lt (Nat.lt_of_lt_of_le (Nat.lt_of_lt_of_le A434.lt K439.1) (Nat.le_of_eq g445.symm))
      have F459 : Fld Z T450.heap b434 "com/example/treeloom/treeloom/xdm/Node" "tree" "Lcom/example/treeloom/treeloom/xdm/Tree;" (.ref b186) := ((q441.ext E445).keep K450 (ninS ne458 nin0))
      have F460 : Fld Z T450.heap b434 "com/example/treeloom/treeloom/xdm/Node" "index" "I" (.int p3) := ((q442.ext E445).keep K450 (ninS ne458 nin0))
      obtain ⟨cq456, kq456, q456a, q456b, q456c⟩ := isOf hZ rfl F457
      obtain ⟨_, _, ⟨T456, L456, k456, n456⟩, -, X456, ⟨Lc456, hQ456, l456, y456, z456⟩, st456⟩ := X450.virtualBack hx (y := (⟨"com/example/treeloom/treeloom/xdm/Node", "equals", "(Ljava/lang/Object;)Z"⟩ : MethodName)) (z := (⟨"com/example/treeloom/treeloom/xdm/Node", "equals", "(Ljava/lang/Object;)Z"⟩ : MethodName)) hown (mvT hZ (hw _ (List.mem_of_getElem? (i := 48) rfl))) (mvT hZ (hw _ (List.mem_of_getElem? (i := 49) rfl))) (notFace_of_selects (args := #[]) (mvT hZ (hw _ (List.mem_of_getElem? (i := 51) rfl)))) (mvT hZ (hw _ (List.mem_of_getElem? (i := 51) rfl))) (mvT hZ (hw _ (List.mem_of_getElem? (i := 50) rfl))) (by decide) (backOf (W := 0) (own_rm_eqO l Z a0 hw [] b434 b434 b186 b186 p3 p3 T450.heap n0 Zs455 F457 F459 F460 F459 F460) hZ (hw _ (List.mem_of_getElem? (i := 52) rfl)) (hw _ (List.mem_of_getElem? (i := 35) rfl)) (by decide) (by decide)) q456a q456c (g := (mkF m 106 #[.val (.long p1), .second, .val (.long p2), .second, .val (.int p3), .val (.int p4), .val (.int p5), .val (.ref b186), .val (.ref b209), .val (.int (1 : Int32)), .val (.int p3), .val (.int ((p5 >>> ((2 : Int32) &&& 31)) &&& (3 : Int32))), .val (.ref b186), .val (.ref b434), .val (.ref b445), .unset, .unset] [(.ref b434), (.ref b434)])) rfl (by rw [hml]; rfl) (Steps.refl _) (argsL := [(.ref b434)]) (rest := []) (lenOf own_pd4 rfl) rfl (by show 2 * 0 + _ ≤ _; exact Nat.le_of_eq rfl) (hb hby at_106) (fun _ _ => ⟨rfl, rfl, (by decide : 18 + 0 ≤ _), (by decide : 220 + 0 ≤ _)⟩)
      dsimp only [Pt.U, Pt.locs, Pt.cells, Pt.slots] at X456 l456 y456 z456 st456 hQ456
      subst l456 y456 z456
      obtain ⟨N456q, rfl, eh456⟩ := hQ456
      have N461 := Fr.app N454 N456q
      refine own_tr st456 ?_
      show own_Go p e below s _ _ _ (T456.setTop (mkF m 109 #[.val (.long p1), .second, .val (.long p2), .second, .val (.int p3), .val (.int p4), .val (.int p5), .val (.ref b186), .val (.ref b209), .val (.int (1 : Int32)), .val (.int p3), .val (.int ((p5 >>> ((2 : Int32) &&& 31)) &&& (3 : Int32))), .val (.ref b186), .val (.ref b434), .val (.ref b445), .unset, .unset] [(.int (if b186 = b186 then (if p3 = p3 then (1 : Int32) else 0) else 0))]))
      refine own_st (fun _ k => XS.istore X456.here hx rfl (hb hby at_109) rfl (l' := #[.val (.long p1), .second, .val (.long p2), .second, .val (.int p3), .val (.int p4), .val (.int p5), .val (.ref b186), .val (.ref b209), .val (.int (1 : Int32)), .val (.int p3), .val (.int ((p5 >>> ((2 : Int32) &&& 31)) &&& (3 : Int32))), .val (.ref b186), .val (.ref b434), .val (.ref b445), .val (.int (if b186 = b186 then (if p3 = p3 then (1 : Int32) else 0) else 0)), .unset]) rfl k) ?_
      show own_Go p e below s _ _ _ (T456.setTop (mkF m 111 #[.val (.long p1), .second, .val (.long p2), .second, .val (.int p3), .val (.int p4), .val (.int p5), .val (.ref b186), .val (.ref b209), .val (.int (1 : Int32)), .val (.int p3), .val (.int ((p5 >>> ((2 : Int32) &&& 31)) &&& (3 : Int32))), .val (.ref b186), .val (.ref b434), .val (.ref b445), .val (.int (if b186 = b186 then (if p3 = p3 then (1 : Int32) else 0) else 0)), .unset] []))
      refine own_st (fun _ k => XS.iload X456.here hx rfl (hb hby at_111) rfl k) ?_
      show own_Go p e below s _ _ _ (T456.setTop (mkF m 113 #[.val (.long p1), .second, .val (.long p2), .second, .val (.int p3), .val (.int p4), .val (.int p5), .val (.ref b186), .val (.ref b209), .val (.int (1 : Int32)), .val (.int p3), .val (.int ((p5 >>> ((2 : Int32) &&& 31)) &&& (3 : Int32))), .val (.ref b186), .val (.ref b434), .val (.ref b445), .val (.int (if b186 = b186 then (if p3 = p3 then (1 : Int32) else 0) else 0)), .unset] [(.int ((p5 >>> ((2 : Int32) &&& 31)) &&& (3 : Int32)))]))
      by_cases hc462 : ((p5 >>> ((2 : Int32) &&& 31)) &&& (3 : Int32)) = 0
      · refine own_st (fun _ k => XS.ifNo X456.here hx rfl (hb hby at_113) rfl (XT.i0_ne_f hc462) k) ?_
        show own_Go p e below s _ _ _ (T456.setTop (mkF m 116 #[.val (.long p1), .second, .val (.long p2), .second, .val (.int p3), .val (.int p4), .val (.int p5), .val (.ref b186), .val (.ref b209), .val (.int (1 : Int32)), .val (.int p3), .val (.int ((p5 >>> ((2 : Int32) &&& 31)) &&& (3 : Int32))), .val (.ref b186), .val (.ref b434), .val (.ref b445), .val (.int (if b186 = b186 then (if p3 = p3 then (1 : Int32) else 0) else 0)), .unset] []))
        refine own_st (fun _ k => XS.iload X456.here hx rfl (hb hby at_116) rfl k) ?_
        show own_Go p e below s _ _ _ (T456.setTop (mkF m 118 #[.val (.long p1), .second, .val (.long p2), .second, .val (.int p3), .val (.int p4), .val (.int p5), .val (.ref b186), .val (.ref b209), .val (.int (1 : Int32)), .val (.int p3), .val (.int ((p5 >>> ((2 : Int32) &&& 31)) &&& (3 : Int32))), .val (.ref b186), .val (.ref b434), .val (.ref b445), .val (.int (if b186 = b186 then (if p3 = p3 then (1 : Int32) else 0) else 0)), .unset] [(.int (1 : Int32))]))
        refine own_st (fun _ k => XS.ifNo X456.here hx rfl (hb hby at_118) rfl (XT.i0_eq_f (by decide)) k) ?_
        show own_Go p e below s _ _ _ (T456.setTop (mkF m 121 #[.val (.long p1), .second, .val (.long p2), .second, .val (.int p3), .val (.int p4), .val (.int p5), .val (.ref b186), .val (.ref b209), .val (.int (1 : Int32)), .val (.int p3), .val (.int ((p5 >>> ((2 : Int32) &&& 31)) &&& (3 : Int32))), .val (.ref b186), .val (.ref b434), .val (.ref b445), .val (.int (if b186 = b186 then (if p3 = p3 then (1 : Int32) else 0) else 0)), .unset] []))
        refine own_st (fun _ k => XS.iload X456.here hx rfl (hb hby at_121) rfl k) ?_
        show own_Go p e below s _ _ _ (T456.setTop (mkF m 123 #[.val (.long p1), .second, .val (.long p2), .second, .val (.int p3), .val (.int p4), .val (.int p5), .val (.ref b186), .val (.ref b209), .val (.int (1 : Int32)), .val (.int p3), .val (.int ((p5 >>> ((2 : Int32) &&& 31)) &&& (3 : Int32))), .val (.ref b186), .val (.ref b434), .val (.ref b445), .val (.int (if b186 = b186 then (if p3 = p3 then (1 : Int32) else 0) else 0)), .unset] [(.int p3)]))
        refine own_st (fun _ k => XS.iload X456.here hx rfl (hb hby at_123) rfl k) ?_
        show own_Go p e below s _ _ _ (T456.setTop (mkF m 125 #[.val (.long p1), .second, .val (.long p2), .second, .val (.int p3), .val (.int p4), .val (.int p5), .val (.ref b186), .val (.ref b209), .val (.int (1 : Int32)), .val (.int p3), .val (.int ((p5 >>> ((2 : Int32) &&& 31)) &&& (3 : Int32))), .val (.ref b186), .val (.ref b434), .val (.ref b445), .val (.int (if b186 = b186 then (if p3 = p3 then (1 : Int32) else 0) else 0)), .unset] [(.int p3), (.int p3)]))
        refine own_st (fun _ k => XS.icmpNo X456.here hx rfl (hb hby at_125) rfl (XT.ii_ne_f rfl) k) ?_
        show own_Go p e below s _ _ _ (T456.setTop (mkF m 128 #[.val (.long p1), .second, .val (.long p2), .second, .val (.int p3), .val (.int p4), .val (.int p5), .val (.ref b186), .val (.ref b209), .val (.int (1 : Int32)), .val (.int p3), .val (.int ((p5 >>> ((2 : Int32) &&& 31)) &&& (3 : Int32))), .val (.ref b186), .val (.ref b434), .val (.ref b445), .val (.int (if b186 = b186 then (if p3 = p3 then (1 : Int32) else 0) else 0)), .unset] []))
        refine own_st (fun _ k => XT.iconstV X456.here hx rfl (1 : Int32) (hb hby at_128) (by decide) k) ?_
        show own_Go p e below s _ _ _ (T456.setTop (mkF m 129 #[.val (.long p1), .second, .val (.long p2), .second, .val (.int p3), .val (.int p4), .val (.int p5), .val (.ref b186), .val (.ref b209), .val (.int (1 : Int32)), .val (.int p3), .val (.int ((p5 >>> ((2 : Int32) &&& 31)) &&& (3 : Int32))), .val (.ref b186), .val (.ref b434), .val (.ref b445), .val (.int (if b186 = b186 then (if p3 = p3 then (1 : Int32) else 0) else 0)), .unset] [(.int (1 : Int32))]))
        refine own_st (fun _ k => XS.goto X456.here hx rfl (pc0 := 129) (pc' := 133) rfl (hb hby at_129) (by decide) (by decide) k) ?_
        show own_Go p e below s _ _ _ (T456.setTop (mkF m 133 #[.val (.long p1), .second, .val (.long p2), .second, .val (.int p3), .val (.int p4), .val (.int p5), .val (.ref b186), .val (.ref b209), .val (.int (1 : Int32)), .val (.int p3), .val (.int ((p5 >>> ((2 : Int32) &&& 31)) &&& (3 : Int32))), .val (.ref b186), .val (.ref b434), .val (.ref b445), .val (.int (if b186 = b186 then (if p3 = p3 then (1 : Int32) else 0) else 0)), .unset] [(.int (1 : Int32))]))
        refine own_st (fun _ k => XS.istore X456.here hx rfl (hb hby at_133) rfl (l' := #[.val (.long p1), .second, .val (.long p2), .second, .val (.int p3), .val (.int p4), .val (.int p5), .val (.ref b186), .val (.ref b209), .val (.int (1 : Int32)), .val (.int p3), .val (.int ((p5 >>> ((2 : Int32) &&& 31)) &&& (3 : Int32))), .val (.ref b186), .val (.ref b434), .val (.ref b445), .val (.int (if b186 = b186 then (if p3 = p3 then (1 : Int32) else 0) else 0)), .val (.int (1 : Int32))]) rfl k) ?_
        show own_Go p e below s _ _ _ (T456.setTop (mkF m 135 #[.val (.long p1), .second, .val (.long p2), .second, .val (.int p3), .val (.int p4), .val (.int p5), .val (.ref b186), .val (.ref b209), .val (.int (1 : Int32)), .val (.int p3), .val (.int ((p5 >>> ((2 : Int32) &&& 31)) &&& (3 : Int32))), .val (.ref b186), .val (.ref b434), .val (.ref b445), .val (.int (if b186 = b186 then (if p3 = p3 then (1 : Int32) else 0) else 0)), .val (.int (1 : Int32))] []))
        refine own_st (fun _ k => XS.iload X456.here hx rfl (hb hby at_135) rfl k) ?_
        show own_Go p e below s _ _ _ (T456.setTop (mkF m 137 #[.val (.long p1), .second, .val (.long p2), .second, .val (.int p3), .val (.int p4), .val (.int p5), .val (.ref b186), .val (.ref b209), .val (.int (1 : Int32)), .val (.int p3), .val (.int ((p5 >>> ((2 : Int32) &&& 31)) &&& (3 : Int32))), .val (.ref b186), .val (.ref b434), .val (.ref b445), .val (.int (if b186 = b186 then (if p3 = p3 then (1 : Int32) else 0) else 0)), .val (.int (1 : Int32))] [(.int (if b186 = b186 then (if p3 = p3 then (1 : Int32) else 0) else 0))]))
        refine own_st (fun _ k => XS.ifNo X456.here hx rfl (hb hby at_137) rfl (XT.i0_eq_f (by simp)) k) ?_
        show own_Go p e below s _ _ _ (T456.setTop (mkF m 140 #[.val (.long p1), .second, .val (.long p2), .second, .val (.int p3), .val (.int p4), .val (.int p5), .val (.ref b186), .val (.ref b209), .val (.int (1 : Int32)), .val (.int p3), .val (.int ((p5 >>> ((2 : Int32) &&& 31)) &&& (3 : Int32))), .val (.ref b186), .val (.ref b434), .val (.ref b445), .val (.int (if b186 = b186 then (if p3 = p3 then (1 : Int32) else 0) else 0)), .val (.int (1 : Int32))] []))
        refine own_st (fun _ k => XS.aload X456.here hx rfl (hb hby at_140) rfl rfl k) ?_
        show own_Go p e below s _ _ _ (T456.setTop (mkF m 142 #[.val (.long p1), .second, .val (.long p2), .second, .val (.int p3), .val (.int p4), .val (.int p5), .val (.ref b186), .val (.ref b209), .val (.int (1 : Int32)), .val (.int p3), .val (.int ((p5 >>> ((2 : Int32) &&& 31)) &&& (3 : Int32))), .val (.ref b186), .val (.ref b434), .val (.ref b445), .val (.int (if b186 = b186 then (if p3 = p3 then (1 : Int32) else 0) else 0)), .val (.int (1 : Int32))] [(.ref b434)]))
        refine own_st (fun _ k => XS.aload X456.here hx rfl (hb hby at_142) rfl rfl k) ?_
        show own_Go p e below s _ _ _ (T456.setTop (mkF m 144 #[.val (.long p1), .second, .val (.long p2), .second, .val (.int p3), .val (.int p4), .val (.int p5), .val (.ref b186), .val (.ref b209), .val (.int (1 : Int32)), .val (.int p3), .val (.int ((p5 >>> ((2 : Int32) &&& 31)) &&& (3 : Int32))), .val (.ref b186), .val (.ref b434), .val (.ref b445), .val (.int (if b186 = b186 then (if p3 = p3 then (1 : Int32) else 0) else 0)), .val (.int (1 : Int32))] [(.ref b445), (.ref b434)]))
        obtain ⟨cq463, kq463, q463a, q463b, q463c⟩ := isOf hZ eh456 F457
        obtain ⟨_, _, ⟨T463, L463, k463, n463⟩, -, X463, ⟨Lc463, hQ463, l463, y463, z463⟩, st463⟩ := X456.virtualBack hx (y := (⟨"com/example/treeloom/treeloom/xdm/Node", "equals", "(Ljava/lang/Object;)Z"⟩ : MethodName)) (z := (⟨"com/example/treeloom/treeloom/xdm/Node", "equals", "(Ljava/lang/Object;)Z"⟩ : MethodName)) hown (mvT hZ (hw _ (List.mem_of_getElem? (i := 48) rfl))) (mvT hZ (hw _ (List.mem_of_getElem? (i := 49) rfl))) (notFace_of_selects (args := #[]) (mvT hZ (hw _ (List.mem_of_getElem? (i := 51) rfl)))) (mvT hZ (hw _ (List.mem_of_getElem? (i := 51) rfl))) (mvT hZ (hw _ (List.mem_of_getElem? (i := 50) rfl))) (by decide) (backOf (W := 0) (own_rm_eqO l Z a0 hw [] b434 b445 b186 b186 p3 p3 T450.heap n0 Zs455 q451 F459 F460 q452 q453) hZ (hw _ (List.mem_of_getElem? (i := 52) rfl)) (hw _ (List.mem_of_getElem? (i := 35) rfl)) (by decide) (by decide)) q463a q463c (g := (mkF m 144 #[.val (.long p1), .second, .val (.long p2), .second, .val (.int p3), .val (.int p4), .val (.int p5), .val (.ref b186), .val (.ref b209), .val (.int (1 : Int32)), .val (.int p3), .val (.int ((p5 >>> ((2 : Int32) &&& 31)) &&& (3 : Int32))), .val (.ref b186), .val (.ref b434), .val (.ref b445), .val (.int (if b186 = b186 then (if p3 = p3 then (1 : Int32) else 0) else 0)), .val (.int (1 : Int32))] [(.ref b445), (.ref b434)])) rfl (by rw [hml]; rfl) (Steps.refl _) (argsL := [(.ref b445)]) (rest := []) (lenOf own_pd4 rfl) rfl (by show 2 * 0 + _ ≤ _; exact Nat.le_of_eq rfl) (hb hby at_144) (fun _ _ => ⟨rfl, eh456, (by decide : 18 + 0 ≤ _), (by decide : 220 + 0 ≤ _)⟩)
        dsimp only [Pt.U, Pt.locs, Pt.cells, Pt.slots] at X463 l463 y463 z463 st463 hQ463
        subst l463 y463 z463
        obtain ⟨N463q, rfl, eh463⟩ := hQ463
        have N464 := Fr.app N461 N463q
        refine own_tr st463 ?_
        show own_Go p e below s _ _ _ (T463.setTop (mkF m 147 #[.val (.long p1), .second, .val (.long p2), .second, .val (.int p3), .val (.int p4), .val (.int p5), .val (.ref b186), .val (.ref b209), .val (.int (1 : Int32)), .val (.int p3), .val (.int ((p5 >>> ((2 : Int32) &&& 31)) &&& (3 : Int32))), .val (.ref b186), .val (.ref b434), .val (.ref b445), .val (.int (if b186 = b186 then (if p3 = p3 then (1 : Int32) else 0) else 0)), .val (.int (1 : Int32))] [(.int (if b186 = b186 then (if p3 = p3 then (1 : Int32) else 0) else 0))]))
        refine own_st (fun _ k => XS.iload X463.here hx rfl (hb hby at_147) rfl k) ?_
        show own_Go p e below s _ _ _ (T463.setTop (mkF m 149 #[.val (.long p1), .second, .val (.long p2), .second, .val (.int p3), .val (.int p4), .val (.int p5), .val (.ref b186), .val (.ref b209), .val (.int (1 : Int32)), .val (.int p3), .val (.int ((p5 >>> ((2 : Int32) &&& 31)) &&& (3 : Int32))), .val (.ref b186), .val (.ref b434), .val (.ref b445), .val (.int (if b186 = b186 then (if p3 = p3 then (1 : Int32) else 0) else 0)), .val (.int (1 : Int32))] [(.int (1 : Int32)), (.int (if b186 = b186 then (if p3 = p3 then (1 : Int32) else 0) else 0))]))
        refine own_st (fun _ k => XS.icmpNo X463.here hx rfl (hb hby at_149) rfl (XT.ii_ne_f (by simp)) k) ?_
        show own_Go p e below s _ _ _ (T463.setTop (mkF m 152 #[.val (.long p1), .second, .val (.long p2), .second, .val (.int p3), .val (.int p4), .val (.int p5), .val (.ref b186), .val (.ref b209), .val (.int (1 : Int32)), .val (.int p3), .val (.int ((p5 >>> ((2 : Int32) &&& 31)) &&& (3 : Int32))), .val (.ref b186), .val (.ref b434), .val (.ref b445), .val (.int (if b186 = b186 then (if p3 = p3 then (1 : Int32) else 0) else 0)), .val (.int (1 : Int32))] []))
        refine own_st (fun _ k => XS.aload X463.here hx rfl (hb hby at_152) rfl rfl k) ?_
        show own_Go p e below s _ _ _ (T463.setTop (mkF m 154 #[.val (.long p1), .second, .val (.long p2), .second, .val (.int p3), .val (.int p4), .val (.int p5), .val (.ref b186), .val (.ref b209), .val (.int (1 : Int32)), .val (.int p3), .val (.int ((p5 >>> ((2 : Int32) &&& 31)) &&& (3 : Int32))), .val (.ref b186), .val (.ref b434), .val (.ref b445), .val (.int (if b186 = b186 then (if p3 = p3 then (1 : Int32) else 0) else 0)), .val (.int (1 : Int32))] [(.ref b445)]))
        refine own_st (fun _ k => XS.aload X463.here hx rfl (hb hby at_154) rfl rfl k) ?_
        show own_Go p e below s _ _ _ (T463.setTop (mkF m 156 #[.val (.long p1), .second, .val (.long p2), .second, .val (.int p3), .val (.int p4), .val (.int p5), .val (.ref b186), .val (.ref b209), .val (.int (1 : Int32)), .val (.int p3), .val (.int ((p5 >>> ((2 : Int32) &&& 31)) &&& (3 : Int32))), .val (.ref b186), .val (.ref b434), .val (.ref b445), .val (.int (if b186 = b186 then (if p3 = p3 then (1 : Int32) else 0) else 0)), .val (.int (1 : Int32))] [(.ref b434), (.ref b445)]))
        obtain ⟨cq465, kq465, q465a, q465b, q465c⟩ := isOf hZ eh463 q451
        obtain ⟨_, _, ⟨T465, L465, k465, n465⟩, -, X465, ⟨Lc465, hQ465, l465, y465, z465⟩, st465⟩ := X463.virtualBack hx (y := (⟨"com/example/treeloom/treeloom/xdm/Node", "equals", "(Ljava/lang/Object;)Z"⟩ : MethodName)) (z := (⟨"com/example/treeloom/treeloom/xdm/Node", "equals", "(Ljava/lang/Object;)Z"⟩ : MethodName)) hown (mvT hZ (hw _ (List.mem_of_getElem? (i := 48) rfl))) (mvT hZ (hw _ (List.mem_of_getElem? (i := 49) rfl))) (notFace_of_selects (args := #[]) (mvT hZ (hw _ (List.mem_of_getElem? (i := 51) rfl)))) (mvT hZ (hw _ (List.mem_of_getElem? (i := 51) rfl))) (mvT hZ (hw _ (List.mem_of_getElem? (i := 50) rfl))) (by decide) (backOf (W := 0) (own_rm_eqO l Z a0 hw [] b445 b434 b186 b186 p3 p3 T450.heap n0 Zs455 F457 q452 q453 F459 F460) hZ (hw _ (List.mem_of_getElem? (i := 52) rfl)) (hw _ (List.mem_of_getElem? (i := 35) rfl)) (by decide) (by decide)) q465a q465c (g := (mkF m 156 #[.val (.long p1), .second, .val (.long p2), .second, .val (.int p3), .val (.int p4), .val (.int p5), .val (.ref b186), .val (.ref b209), .val (.int (1 : Int32)), .val (.int p3), .val (.int ((p5 >>> ((2 : Int32) &&& 31)) &&& (3 : Int32))), .val (.ref b186), .val (.ref b434), .val (.ref b445), .val (.int (if b186 = b186 then (if p3 = p3 then (1 : Int32) else 0) else 0)), .val (.int (1 : Int32))] [(.ref b434), (.ref b445)])) rfl (by rw [hml]; rfl) (Steps.refl _) (argsL := [(.ref b434)]) (rest := []) (lenOf own_pd4 rfl) rfl (by show 2 * 0 + _ ≤ _; exact Nat.le_of_eq rfl) (hb hby at_156) (fun _ _ => ⟨rfl, eh463, (by decide : 18 + 0 ≤ _), (by decide : 220 + 0 ≤ _)⟩)
        dsimp only [Pt.U, Pt.locs, Pt.cells, Pt.slots] at X465 l465 y465 z465 st465 hQ465
        subst l465 y465 z465
        obtain ⟨N465q, rfl, eh465⟩ := hQ465
        have N466 := Fr.app N464 N465q
        refine own_tr st465 ?_
        show own_Go p e below s _ _ _ (T465.setTop (mkF m 159 #[.val (.long p1), .second, .val (.long p2), .second, .val (.int p3), .val (.int p4), .val (.int p5), .val (.ref b186), .val (.ref b209), .val (.int (1 : Int32)), .val (.int p3), .val (.int ((p5 >>> ((2 : Int32) &&& 31)) &&& (3 : Int32))), .val (.ref b186), .val (.ref b434), .val (.ref b445), .val (.int (if b186 = b186 then (if p3 = p3 then (1 : Int32) else 0) else 0)), .val (.int (1 : Int32))] [(.int (if b186 = b186 then (if p3 = p3 then (1 : Int32) else 0) else 0))]))
        refine own_st (fun _ k => XS.iload X465.here hx rfl (hb hby at_159) rfl k) ?_
        show own_Go p e below s _ _ _ (T465.setTop (mkF m 161 #[.val (.long p1), .second, .val (.long p2), .second, .val (.int p3), .val (.int p4), .val (.int p5), .val (.ref b186), .val (.ref b209), .val (.int (1 : Int32)), .val (.int p3), .val (.int ((p5 >>> ((2 : Int32) &&& 31)) &&& (3 : Int32))), .val (.ref b186), .val (.ref b434), .val (.ref b445), .val (.int (if b186 = b186 then (if p3 = p3 then (1 : Int32) else 0) else 0)), .val (.int (1 : Int32))] [(.int (1 : Int32)), (.int (if b186 = b186 then (if p3 = p3 then (1 : Int32) else 0) else 0))]))
        refine own_st (fun _ k => XS.icmpNo X465.here hx rfl (hb hby at_161) rfl (XT.ii_ne_f (by simp)) k) ?_
        show own_Go p e below s _ _ _ (T465.setTop (mkF m 164 #[.val (.long p1), .second, .val (.long p2), .second, .val (.int p3), .val (.int p4), .val (.int p5), .val (.ref b186), .val (.ref b209), .val (.int (1 : Int32)), .val (.int p3), .val (.int ((p5 >>> ((2 : Int32) &&& 31)) &&& (3 : Int32))), .val (.ref b186), .val (.ref b434), .val (.ref b445), .val (.int (if b186 = b186 then (if p3 = p3 then (1 : Int32) else 0) else 0)), .val (.int (1 : Int32))] []))
        refine own_st (fun _ k => XT.iconstV X465.here hx rfl (1 : Int32) (hb hby at_164) (by decide) k) ?_
        show own_Go p e below s _ _ _ (T465.setTop (mkF m 165 #[.val (.long p1), .second, .val (.long p2), .second, .val (.int p3), .val (.int p4), .val (.int p5), .val (.ref b186), .val (.ref b209), .val (.int (1 : Int32)), .val (.int p3), .val (.int ((p5 >>> ((2 : Int32) &&& 31)) &&& (3 : Int32))), .val (.ref b186), .val (.ref b434), .val (.ref b445), .val (.int (if b186 = b186 then (if p3 = p3 then (1 : Int32) else 0) else 0)), .val (.int (1 : Int32))] [(.int (1 : Int32))]))
        refine own_st (fun _ k => XS.goto X465.here hx rfl (pc0 := 165) (pc' := 169) rfl (hb hby at_165) (by decide) (by decide) k) ?_
        show own_Go p e below s _ _ _ (T465.setTop (mkF m 169 #[.val (.long p1), .second, .val (.long p2), .second, .val (.int p3), .val (.int p4), .val (.int p5), .val (.ref b186), .val (.ref b209), .val (.int (1 : Int32)), .val (.int p3), .val (.int ((p5 >>> ((2 : Int32) &&& 31)) &&& (3 : Int32))), .val (.ref b186), .val (.ref b434), .val (.ref b445), .val (.int (if b186 = b186 then (if p3 = p3 then (1 : Int32) else 0) else 0)), .val (.int (1 : Int32))] [(.int (1 : Int32))]))
        refine own_st (fun _ k => XS.istore X465.here hx rfl (hb hby at_169) rfl (l' := #[.val (.long p1), .second, .val (.long p2), .second, .val (.int p3), .val (.int p4), .val (.int p5), .val (.ref b186), .val (.ref b209), .val (.int (1 : Int32)), .val (.int p3), .val (.int ((p5 >>> ((2 : Int32) &&& 31)) &&& (3 : Int32))), .val (.ref b186), .val (.ref b434), .val (.ref b445), .val (.int (1 : Int32)), .val (.int (1 : Int32))]) rfl k) ?_
        show own_Go p e below s _ _ _ (T465.setTop (mkF m 171 #[.val (.long p1), .second, .val (.long p2), .second, .val (.int p3), .val (.int p4), .val (.int p5), .val (.ref b186), .val (.ref b209), .val (.int (1 : Int32)), .val (.int p3), .val (.int ((p5 >>> ((2 : Int32) &&& 31)) &&& (3 : Int32))), .val (.ref b186), .val (.ref b434), .val (.ref b445), .val (.int (1 : Int32)), .val (.int (1 : Int32))] []))
        refine own_st (fun _ k => XS.goto X465.here hx rfl (pc0 := 171) (pc' := 282) rfl (hb hby at_171) (by decide) (by decide) k) ?_
        show own_Go p e below s _ _ _ (T465.setTop (mkF m 282 #[.val (.long p1), .second, .val (.long p2), .second, .val (.int p3), .val (.int p4), .val (.int p5), .val (.ref b186), .val (.ref b209), .val (.int (1 : Int32)), .val (.int p3), .val (.int ((p5 >>> ((2 : Int32) &&& 31)) &&& (3 : Int32))), .val (.ref b186), .val (.ref b434), .val (.ref b445), .val (.int (1 : Int32)), .val (.int (1 : Int32))] []))
        refine own_st (fun _ k => XS.iload X465.here hx rfl (hb hby at_282) rfl k) ?_
        show own_Go p e below s _ _ _ (T465.setTop (mkF m 284 #[.val (.long p1), .second, .val (.long p2), .second, .val (.int p3), .val (.int p4), .val (.int p5), .val (.ref b186), .val (.ref b209), .val (.int (1 : Int32)), .val (.int p3), .val (.int ((p5 >>> ((2 : Int32) &&& 31)) &&& (3 : Int32))), .val (.ref b186), .val (.ref b434), .val (.ref b445), .val (.int (1 : Int32)), .val (.int (1 : Int32))] [(.int (1 : Int32))]))
        refine own_retN X465 hx hlk Bd.returns (t := .boolean) (z' := (1 : Int32)) (by simp) (by decide) (hb hby at_284) (by decide) (by decide) ?_
        rw [eh465]
        exact ⟨N466, rfl⟩
      · refine own_st (fun _ k => XS.ifYes X456.here hx rfl (pc0 := 113) (pc' := 174) rfl (hb hby at_113) rfl (XT.i0_ne_t hc462) (by decide) (by decide) k) ?_
        show own_Go p e below s _ _ _ (T456.setTop (mkF m 174 #[.val (.long p1), .second, .val (.long p2), .second, .val (.int p3), .val (.int p4), .val (.int p5), .val (.ref b186), .val (.ref b209), .val (.int (1 : Int32)), .val (.int p3), .val (.int ((p5 >>> ((2 : Int32) &&& 31)) &&& (3 : Int32))), .val (.ref b186), .val (.ref b434), .val (.ref b445), .val (.int (if b186 = b186 then (if p3 = p3 then (1 : Int32) else 0) else 0)), .unset] []))
        refine own_st (fun _ k => XS.iload X456.here hx rfl (hb hby at_174) rfl k) ?_
        show own_Go p e below s _ _ _ (T456.setTop (mkF m 176 #[.val (.long p1), .second, .val (.long p2), .second, .val (.int p3), .val (.int p4), .val (.int p5), .val (.ref b186), .val (.ref b209), .val (.int (1 : Int32)), .val (.int p3), .val (.int ((p5 >>> ((2 : Int32) &&& 31)) &&& (3 : Int32))), .val (.ref b186), .val (.ref b434), .val (.ref b445), .val (.int (if b186 = b186 then (if p3 = p3 then (1 : Int32) else 0) else 0)), .unset] [(.int ((p5 >>> ((2 : Int32) &&& 31)) &&& (3 : Int32)))]))
        refine own_st (fun _ k => XT.iconstV X456.here hx rfl (1 : Int32) (hb hby at_176) (by decide) k) ?_
        show own_Go p e below s _ _ _ (T456.setTop (mkF m 177 #[.val (.long p1), .second, .val (.long p2), .second, .val (.int p3), .val (.int p4), .val (.int p5), .val (.ref b186), .val (.ref b209), .val (.int (1 : Int32)), .val (.int p3), .val (.int ((p5 >>> ((2 : Int32) &&& 31)) &&& (3 : Int32))), .val (.ref b186), .val (.ref b434), .val (.ref b445), .val (.int (if b186 = b186 then (if p3 = p3 then (1 : Int32) else 0) else 0)), .unset] [(.int (1 : Int32)), (.int ((p5 >>> ((2 : Int32) &&& 31)) &&& (3 : Int32)))]))
        by_cases hc467 : ((p5 >>> ((2 : Int32) &&& 31)) &&& (3 : Int32)) = (1 : Int32)
        · refine own_st (fun _ k => XS.icmpNo X456.here hx rfl (hb hby at_177) rfl (XT.ii_ne_f hc467) k) ?_
          show own_Go p e below s _ _ _ (T456.setTop (mkF m 180 #[.val (.long p1), .second, .val (.long p2), .second, .val (.int p3), .val (.int p4), .val (.int p5), .val (.ref b186), .val (.ref b209), .val (.int (1 : Int32)), .val (.int p3), .val (.int ((p5 >>> ((2 : Int32) &&& 31)) &&& (3 : Int32))), .val (.ref b186), .val (.ref b434), .val (.ref b445), .val (.int (if b186 = b186 then (if p3 = p3 then (1 : Int32) else 0) else 0)), .unset] []))
          refine own_st (fun _ k => XS.iload X456.here hx rfl (hb hby at_180) rfl k) ?_
          show own_Go p e below s _ _ _ (T456.setTop (mkF m 182 #[.val (.long p1), .second, .val (.long p2), .second, .val (.int p3), .val (.int p4), .val (.int p5), .val (.ref b186), .val (.ref b209), .val (.int (1 : Int32)), .val (.int p3), .val (.int ((p5 >>> ((2 : Int32) &&& 31)) &&& (3 : Int32))), .val (.ref b186), .val (.ref b434), .val (.ref b445), .val (.int (if b186 = b186 then (if p3 = p3 then (1 : Int32) else 0) else 0)), .unset] [(.int (if b186 = b186 then (if p3 = p3 then (1 : Int32) else 0) else 0))]))
          refine own_st (fun _ k => XS.ifNo X456.here hx rfl (hb hby at_182) rfl (XT.i0_eq_f (by simp)) k) ?_
          show own_Go p e below s _ _ _ (T456.setTop (mkF m 185 #[.val (.long p1), .second, .val (.long p2), .second, .val (.int p3), .val (.int p4), .val (.int p5), .val (.ref b186), .val (.ref b209), .val (.int (1 : Int32)), .val (.int p3), .val (.int ((p5 >>> ((2 : Int32) &&& 31)) &&& (3 : Int32))), .val (.ref b186), .val (.ref b434), .val (.ref b445), .val (.int (if b186 = b186 then (if p3 = p3 then (1 : Int32) else 0) else 0)), .unset] []))
          refine own_st (fun _ k => XS.aload X456.here hx rfl (hb hby at_185) rfl rfl k) ?_
          show own_Go p e below s _ _ _ (T456.setTop (mkF m 187 #[.val (.long p1), .second, .val (.long p2), .second, .val (.int p3), .val (.int p4), .val (.int p5), .val (.ref b186), .val (.ref b209), .val (.int (1 : Int32)), .val (.int p3), .val (.int ((p5 >>> ((2 : Int32) &&& 31)) &&& (3 : Int32))), .val (.ref b186), .val (.ref b434), .val (.ref b445), .val (.int (if b186 = b186 then (if p3 = p3 then (1 : Int32) else 0) else 0)), .unset] [(.ref b434)]))
          refine own_st (fun _ k => XS.aconstNull X456.here hx rfl (hb hby at_187) k) ?_
          show own_Go p e below s _ _ _ (T456.setTop (mkF m 188 #[.val (.long p1), .second, .val (.long p2), .second, .val (.int p3), .val (.int p4), .val (.int p5), .val (.ref b186), .val (.ref b209), .val (.int (1 : Int32)), .val (.int p3), .val (.int ((p5 >>> ((2 : Int32) &&& 31)) &&& (3 : Int32))), .val (.ref b186), .val (.ref b434), .val (.ref b445), .val (.int (if b186 = b186 then (if p3 = p3 then (1 : Int32) else 0) else 0)), .unset] [.null, (.ref b434)]))
          obtain ⟨cq468, kq468, q468a, q468b, q468c⟩ := isOf hZ eh456 F457
          obtain ⟨_, _, ⟨T468, L468, k468, n468⟩, -, X468, ⟨Lc468, hQ468, l468, y468, z468⟩, st468⟩ := X456.virtualBack hx (y := (⟨"com/example/treeloom/treeloom/xdm/Node", "equals", "(Ljava/lang/Object;)Z"⟩ : MethodName)) (z := (⟨"com/example/treeloom/treeloom/xdm/Node", "equals", "(Ljava/lang/Object;)Z"⟩ : MethodName)) hown (mvT hZ (hw _ (List.mem_of_getElem? (i := 48) rfl))) (mvT hZ (hw _ (List.mem_of_getElem? (i := 49) rfl))) (notFace_of_selects (args := #[]) (mvT hZ (hw _ (List.mem_of_getElem? (i := 51) rfl)))) (mvT hZ (hw _ (List.mem_of_getElem? (i := 51) rfl))) (mvT hZ (hw _ (List.mem_of_getElem? (i := 50) rfl))) (by decide) (backOf (W := 0) (own_rm_eqN l Z a0 hw [] b434 T450.heap n0 Zs455 ) hZ (hw _ (List.mem_of_getElem? (i := 52) rfl)) (hw _ (List.mem_of_getElem? (i := 35) rfl)) (by decide) (by decide)) q468a q468c (g := (mkF m 188 #[.val (.long p1), .second, .val (.long p2), .second, .val (.int p3), .val (.int p4), .val (.int p5), .val (.ref b186), .val (.ref b209), .val (.int (1 : Int32)), .val (.int p3), .val (.int ((p5 >>> ((2 : Int32) &&& 31)) &&& (3 : Int32))), .val (.ref b186), .val (.ref b434), .val (.ref b445), .val (.int (if b186 = b186 then (if p3 = p3 then (1 : Int32) else 0) else 0)), .unset] [.null, (.ref b434)])) rfl (by rw [hml]; rfl) (Steps.refl _) (argsL := [.null]) (rest := []) (lenOf own_pd4 rfl) rfl (by show 2 * 0 + _ ≤ _; exact Nat.le_of_eq rfl) (hb hby at_188) (fun _ _ => ⟨rfl, eh456, (by decide : 18 + 0 ≤ _), (by decide : 220 + 0 ≤ _)⟩)
          dsimp only [Pt.U, Pt.locs, Pt.cells, Pt.slots] at X468 l468 y468 z468 st468 hQ468
          subst l468 y468 z468
          obtain ⟨N468q, rfl, eh468⟩ := hQ468
          have N469 := Fr.app N461 N468q
          refine own_tr st468 ?_
          show own_Go p e below s _ _ _ (T468.setTop (mkF m 191 #[.val (.long p1), .second, .val (.long p2), .second, .val (.int p3), .val (.int p4), .val (.int p5), .val (.ref b186), .val (.ref b209), .val (.int (1 : Int32)), .val (.int p3), .val (.int ((p5 >>> ((2 : Int32) &&& 31)) &&& (3 : Int32))), .val (.ref b186), .val (.ref b434), .val (.ref b445), .val (.int (if b186 = b186 then (if p3 = p3 then (1 : Int32) else 0) else 0)), .unset] [(.int (0 : Int32))]))
          refine own_st (fun _ k => XS.ifNo X468.here hx rfl (hb hby at_191) rfl (XT.i0_ne_f (by decide)) k) ?_
          show own_Go p e below s _ _ _ (T468.setTop (mkF m 194 #[.val (.long p1), .second, .val (.long p2), .second, .val (.int p3), .val (.int p4), .val (.int p5), .val (.ref b186), .val (.ref b209), .val (.int (1 : Int32)), .val (.int p3), .val (.int ((p5 >>> ((2 : Int32) &&& 31)) &&& (3 : Int32))), .val (.ref b186), .val (.ref b434), .val (.ref b445), .val (.int (if b186 = b186 then (if p3 = p3 then (1 : Int32) else 0) else 0)), .unset] []))
          refine own_st (fun _ k => XT.iconstV X468.here hx rfl (1 : Int32) (hb hby at_194) (by decide) k) ?_
          show own_Go p e below s _ _ _ (T468.setTop (mkF m 195 #[.val (.long p1), .second, .val (.long p2), .second, .val (.int p3), .val (.int p4), .val (.int p5), .val (.ref b186), .val (.ref b209), .val (.int (1 : Int32)), .val (.int p3), .val (.int ((p5 >>> ((2 : Int32) &&& 31)) &&& (3 : Int32))), .val (.ref b186), .val (.ref b434), .val (.ref b445), .val (.int (if b186 = b186 then (if p3 = p3 then (1 : Int32) else 0) else 0)), .unset] [(.int (1 : Int32))]))
          refine own_st (fun _ k => XS.goto X468.here hx rfl (pc0 := 195) (pc' := 199) rfl (hb hby at_195) (by decide) (by decide) k) ?_
          show own_Go p e below s _ _ _ (T468.setTop (mkF m 199 #[.val (.long p1), .second, .val (.long p2), .second, .val (.int p3), .val (.int p4), .val (.int p5), .val (.ref b186), .val (.ref b209), .val (.int (1 : Int32)), .val (.int p3), .val (.int ((p5 >>> ((2 : Int32) &&& 31)) &&& (3 : Int32))), .val (.ref b186), .val (.ref b434), .val (.ref b445), .val (.int (if b186 = b186 then (if p3 = p3 then (1 : Int32) else 0) else 0)), .unset] [(.int (1 : Int32))]))
          refine own_st (fun _ k => XS.istore X468.here hx rfl (hb hby at_199) rfl (l' := #[.val (.long p1), .second, .val (.long p2), .second, .val (.int p3), .val (.int p4), .val (.int p5), .val (.ref b186), .val (.ref b209), .val (.int (1 : Int32)), .val (.int p3), .val (.int ((p5 >>> ((2 : Int32) &&& 31)) &&& (3 : Int32))), .val (.ref b186), .val (.ref b434), .val (.ref b445), .val (.int (1 : Int32)), .unset]) rfl k) ?_
          show own_Go p e below s _ _ _ (T468.setTop (mkF m 201 #[.val (.long p1), .second, .val (.long p2), .second, .val (.int p3), .val (.int p4), .val (.int p5), .val (.ref b186), .val (.ref b209), .val (.int (1 : Int32)), .val (.int p3), .val (.int ((p5 >>> ((2 : Int32) &&& 31)) &&& (3 : Int32))), .val (.ref b186), .val (.ref b434), .val (.ref b445), .val (.int (1 : Int32)), .unset] []))
          refine own_st (fun _ k => XS.goto X468.here hx rfl (pc0 := 201) (pc' := 282) rfl (hb hby at_201) (by decide) (by decide) k) ?_
          show own_Go p e below s _ _ _ (T468.setTop (mkF m 282 #[.val (.long p1), .second, .val (.long p2), .second, .val (.int p3), .val (.int p4), .val (.int p5), .val (.ref b186), .val (.ref b209), .val (.int (1 : Int32)), .val (.int p3), .val (.int ((p5 >>> ((2 : Int32) &&& 31)) &&& (3 : Int32))), .val (.ref b186), .val (.ref b434), .val (.ref b445), .val (.int (1 : Int32)), .unset] []))
          refine own_st (fun _ k => XS.iload X468.here hx rfl (hb hby at_282) rfl k) ?_
          show own_Go p e below s _ _ _ (T468.setTop (mkF m 284 #[.val (.long p1), .second, .val (.long p2), .second, .val (.int p3), .val (.int p4), .val (.int p5), .val (.ref b186), .val (.ref b209), .val (.int (1 : Int32)), .val (.int p3), .val (.int ((p5 >>> ((2 : Int32) &&& 31)) &&& (3 : Int32))), .val (.ref b186), .val (.ref b434), .val (.ref b445), .val (.int (1 : Int32)), .unset] [(.int (1 : Int32))]))
          refine own_retN X468 hx hlk Bd.returns (t := .boolean) (z' := (1 : Int32)) (by simp) (by decide) (hb hby at_284) (by decide) (by decide) ?_
          rw [eh468]
          exact ⟨N469, rfl⟩
        · refine own_st (fun _ k => XS.icmpYes X456.here hx rfl (pc0 := 177) (pc' := 204) rfl (hb hby at_177) rfl (XT.ii_ne_t hc467) (by decide) (by decide) k) ?_
          show own_Go p e below s _ _ _ (T456.setTop (mkF m 204 #[.val (.long p1), .second, .val (.long p2), .second, .val (.int p3), .val (.int p4), .val (.int p5), .val (.ref b186), .val (.ref b209), .val (.int (1 : Int32)), .val (.int p3), .val (.int ((p5 >>> ((2 : Int32) &&& 31)) &&& (3 : Int32))), .val (.ref b186), .val (.ref b434), .val (.ref b445), .val (.int (if b186 = b186 then (if p3 = p3 then (1 : Int32) else 0) else 0)), .unset] []))
          refine own_st (fun _ k => XS.iload X456.here hx rfl (hb hby at_204) rfl k) ?_
          show own_Go p e below s _ _ _ (T456.setTop (mkF m 206 #[.val (.long p1), .second, .val (.long p2), .second, .val (.int p3), .val (.int p4), .val (.int p5), .val (.ref b186), .val (.ref b209), .val (.int (1 : Int32)), .val (.int p3), .val (.int ((p5 >>> ((2 : Int32) &&& 31)) &&& (3 : Int32))), .val (.ref b186), .val (.ref b434), .val (.ref b445), .val (.int (if b186 = b186 then (if p3 = p3 then (1 : Int32) else 0) else 0)), .unset] [(.int ((p5 >>> ((2 : Int32) &&& 31)) &&& (3 : Int32)))]))
          refine own_st (fun _ k => XT.iconstV X456.here hx rfl (2 : Int32) (hb hby at_206) (by decide) k) ?_
          show own_Go p e below s _ _ _ (T456.setTop (mkF m 207 #[.val (.long p1), .second, .val (.long p2), .second, .val (.int p3), .val (.int p4), .val (.int p5), .val (.ref b186), .val (.ref b209), .val (.int (1 : Int32)), .val (.int p3), .val (.int ((p5 >>> ((2 : Int32) &&& 31)) &&& (3 : Int32))), .val (.ref b186), .val (.ref b434), .val (.ref b445), .val (.int (if b186 = b186 then (if p3 = p3 then (1 : Int32) else 0) else 0)), .unset] [(.int (2 : Int32)), (.int ((p5 >>> ((2 : Int32) &&& 31)) &&& (3 : Int32)))]))
          by_cases hc470 : ((p5 >>> ((2 : Int32) &&& 31)) &&& (3 : Int32)) = (2 : Int32)
          · refine own_st (fun _ k => XS.icmpNo X456.here hx rfl (hb hby at_207) rfl (XT.ii_ne_f hc470) k) ?_
            show own_Go p e below s _ _ _ (T456.setTop (mkF m 210 #[.val (.long p1), .second, .val (.long p2), .second, .val (.int p3), .val (.int p4), .val (.int p5), .val (.ref b186), .val (.ref b209), .val (.int (1 : Int32)), .val (.int p3), .val (.int ((p5 >>> ((2 : Int32) &&& 31)) &&& (3 : Int32))), .val (.ref b186), .val (.ref b434), .val (.ref b445), .val (.int (if b186 = b186 then (if p3 = p3 then (1 : Int32) else 0) else 0)), .unset] []))
            refine own_st (fun _ k => XS.iload X456.here hx rfl (hb hby at_210) rfl k) ?_
            show own_Go p e below s _ _ _ (T456.setTop (mkF m 212 #[.val (.long p1), .second, .val (.long p2), .second, .val (.int p3), .val (.int p4), .val (.int p5), .val (.ref b186), .val (.ref b209), .val (.int (1 : Int32)), .val (.int p3), .val (.int ((p5 >>> ((2 : Int32) &&& 31)) &&& (3 : Int32))), .val (.ref b186), .val (.ref b434), .val (.ref b445), .val (.int (if b186 = b186 then (if p3 = p3 then (1 : Int32) else 0) else 0)), .unset] [(.int (if b186 = b186 then (if p3 = p3 then (1 : Int32) else 0) else 0))]))
            refine own_st (fun _ k => XS.ifNo X456.here hx rfl (hb hby at_212) rfl (XT.i0_eq_f (by simp)) k) ?_
            show own_Go p e below s _ _ _ (T456.setTop (mkF m 215 #[.val (.long p1), .second, .val (.long p2), .second, .val (.int p3), .val (.int p4), .val (.int p5), .val (.ref b186), .val (.ref b209), .val (.int (1 : Int32)), .val (.int p3), .val (.int ((p5 >>> ((2 : Int32) &&& 31)) &&& (3 : Int32))), .val (.ref b186), .val (.ref b434), .val (.ref b445), .val (.int (if b186 = b186 then (if p3 = p3 then (1 : Int32) else 0) else 0)), .unset] []))
            refine own_st (fun _ k => XS.aload X456.here hx rfl (hb hby at_215) rfl rfl k) ?_
            show own_Go p e below s _ _ _ (T456.setTop (mkF m 217 #[.val (.long p1), .second, .val (.long p2), .second, .val (.int p3), .val (.int p4), .val (.int p5), .val (.ref b186), .val (.ref b209), .val (.int (1 : Int32)), .val (.int p3), .val (.int ((p5 >>> ((2 : Int32) &&& 31)) &&& (3 : Int32))), .val (.ref b186), .val (.ref b434), .val (.ref b445), .val (.int (if b186 = b186 then (if p3 = p3 then (1 : Int32) else 0) else 0)), .unset] [(.ref b434)]))
            refine own_st (fun _ k => XS.iload X456.here hx rfl (hb hby at_217) rfl k) ?_
            show own_Go p e below s _ _ _ (T456.setTop (mkF m 219 #[.val (.long p1), .second, .val (.long p2), .second, .val (.int p3), .val (.int p4), .val (.int p5), .val (.ref b186), .val (.ref b209), .val (.int (1 : Int32)), .val (.int p3), .val (.int ((p5 >>> ((2 : Int32) &&& 31)) &&& (3 : Int32))), .val (.ref b186), .val (.ref b434), .val (.ref b445), .val (.int (if b186 = b186 then (if p3 = p3 then (1 : Int32) else 0) else 0)), .unset] [(.int p3), (.ref b434)]))
            have O472 : Old Z n0 T450.heap := ((((((((O0.ext E186).keep K198 (allS g188 all0)).ext E209).keep K221 (allS g211 all0)).ext E434).keep K439 (allS g436 all0)).ext E445).keep K450 (allS g447 all0))
            obtain ⟨_, _, ⟨T471, L471, k471, n471⟩, -, X471, ⟨Lc471, hQ471, l471, y471, z471⟩, st471⟩ := Jvm.LawKit.callS X456 hx (y := (⟨"java/lang/Integer", "valueOf", "(I)Ljava/lang/Integer;"⟩ : MethodName)) hown (mvT hZ (hw _ (List.mem_of_getElem? (i := 55) rfl))) (mvT hZ (hw _ (List.mem_of_getElem? (i := 56) rfl))) (mvT hZ (hw _ (List.mem_of_getElem? (i := 57) rfl))) (mvT hZ (hw _ (List.mem_of_getElem? (i := 58) rfl))) (by decide) (backOf (W := 1) (own_rm_valueOfI l Z a0 hw [] p3 a_cacheI T450.heap n0 Zs455 O472 S_cacheI BxI S_high) hZ (hw _ (List.mem_of_getElem? (i := 58) rfl)) (hw _ (List.mem_of_getElem? (i := 57) rfl)) (by decide) (by decide)) (g := (mkF m 219 #[.val (.long p1), .second, .val (.long p2), .second, .val (.int p3), .val (.int p4), .val (.int p5), .val (.ref b186), .val (.ref b209), .val (.int (1 : Int32)), .val (.int p3), .val (.int ((p5 >>> ((2 : Int32) &&& 31)) &&& (3 : Int32))), .val (.ref b186), .val (.ref b434), .val (.ref b445), .val (.int (if b186 = b186 then (if p3 = p3 then (1 : Int32) else 0) else 0)), .unset] [(.int p3), (.ref b434)])) rfl (by rw [hml]; rfl) (argsL := [(.int p3)]) (rest := [(.ref b434)]) (lenOf own_pd5 rfl) rfl (by show 2 * 0 + _ ≤ _; exact Nat.le_of_eq rfl) (hb hby at_219) (fun _ _ => ⟨rfl, eh456, (by decide : 18 + 1 ≤ _), (by decide : 220 + 1 ≤ _)⟩)
            dsimp only [Pt.U, Pt.locs, Pt.cells, Pt.slots] at X471 l471 y471 z471 st471 hQ471
            subst l471 y471 z471
            obtain ⟨x473, N471q, rfl, K471, q474, q475⟩ := hQ471
            have N476 := Fr.app N461 N471q
            refine own_st st471 ?_
            have Zs477 : n0 ≤ T471.heap.size := Nat.le_trans Zs455 K471.1
            show own_Go p e below s _ _ _ (T471.setTop (mkF m 222 #[.val (.long p1), .second, .val (.long p2), .second, .val (.int p3), .val (.int p4), .val (.int p5), .val (.ref b186), .val (.ref b209), .val (.int (1 : Int32)), .val (.int p3), .val (.int ((p5 >>> ((2 : Int32) &&& 31)) &&& (3 : Int32))), .val (.ref b186), .val (.ref b434), .val (.ref b445), .val (.int (if b186 = b186 then (if p3 = p3 then (1 : Int32) else 0) else 0)), .unset] [(.ref x473), (.ref b434)]))
            have F479 : Exa Z T471.heap b434 "com/example/treeloom/treeloom/xdm/Node" := (F457.keep K471)
            obtain ⟨cq478, kq478, q478a, q478b, q478c⟩ := isOf hZ rfl F479
            obtain ⟨_, _, ⟨T478, L478, k478, n478⟩, -, X478, ⟨Lc478, hQ478, l478, y478, z478⟩, st478⟩ := X471.virtualBack hx (y := (⟨"com/example/treeloom/treeloom/xdm/Node", "equals", "(Ljava/lang/Object;)Z"⟩ : MethodName)) (z := (⟨"com/example/treeloom/treeloom/xdm/Node", "equals", "(Ljava/lang/Object;)Z"⟩ : MethodName)) hown (mvT hZ (hw _ (List.mem_of_getElem? (i := 48) rfl))) (mvT hZ (hw _ (List.mem_of_getElem? (i := 49) rfl))) (notFace_of_selects (args := #[]) (mvT hZ (hw _ (List.mem_of_getElem? (i := 51) rfl)))) (mvT hZ (hw _ (List.mem_of_getElem? (i := 51) rfl))) (mvT hZ (hw _ (List.mem_of_getElem? (i := 50) rfl))) (by decide) (backOf (W := 0) (own_rm_eqI l Z a0 hw [] b434 x473 T471.heap n0 Zs477 q474) hZ (hw _ (List.mem_of_getElem? (i := 52) rfl)) (hw _ (List.mem_of_getElem? (i := 35) rfl)) (by decide) (by decide)) q478a q478c (g := (mkF m 222 #[.val (.long p1), .second, .val (.long p2), .second, .val (.int p3), .val (.int p4), .val (.int p5), .val (.ref b186), .val (.ref b209), .val (.int (1 : Int32)), .val (.int p3), .val (.int ((p5 >>> ((2 : Int32) &&& 31)) &&& (3 : Int32))), .val (.ref b186), .val (.ref b434), .val (.ref b445), .val (.int (if b186 = b186 then (if p3 = p3 then (1 : Int32) else 0) else 0)), .unset] [(.ref x473), (.ref b434)])) rfl (by rw [hml]; rfl) (Steps.refl _) (argsL := [(.ref x473)]) (rest := []) (lenOf own_pd4 rfl) rfl (by show 2 * 0 + _ ≤ _; exact Nat.le_of_eq rfl) (hb hby at_222) (fun _ _ => ⟨rfl, rfl, (by decide : 19 + 0 ≤ _), (by decide : 221 + 0 ≤ _)⟩)
            dsimp only [Pt.U, Pt.locs, Pt.cells, Pt.slots] at X478 l478 y478 z478 st478 hQ478
            subst l478 y478 z478
            obtain ⟨N478q, rfl, eh478⟩ := hQ478
            have N480 := Fr.app N476 N478q
            refine own_tr st478 ?_
            show own_Go p e below s _ _ _ (T478.setTop (mkF m 225 #[.val (.long p1), .second, .val (.long p2), .second, .val (.int p3), .val (.int p4), .val (.int p5), .val (.ref b186), .val (.ref b209), .val (.int (1 : Int32)), .val (.int p3), .val (.int ((p5 >>> ((2 : Int32) &&& 31)) &&& (3 : Int32))), .val (.ref b186), .val (.ref b434), .val (.ref b445), .val (.int (if b186 = b186 then (if p3 = p3 then (1 : Int32) else 0) else 0)), .unset] [(.int (0 : Int32))]))
            refine own_st (fun _ k => XS.ifNo X478.here hx rfl (hb hby at_225) rfl (XT.i0_ne_f (by decide)) k) ?_
            show own_Go p e below s _ _ _ (T478.setTop (mkF m 228 #[.val (.long p1), .second, .val (.long p2), .second, .val (.int p3), .val (.int p4), .val (.int p5), .val (.ref b186), .val (.ref b209), .val (.int (1 : Int32)), .val (.int p3), .val (.int ((p5 >>> ((2 : Int32) &&& 31)) &&& (3 : Int32))), .val (.ref b186), .val (.ref b434), .val (.ref b445), .val (.int (if b186 = b186 then (if p3 = p3 then (1 : Int32) else 0) else 0)), .unset] []))
            refine own_st (fun _ k => XT.iconstV X478.here hx rfl (1 : Int32) (hb hby at_228) (by decide) k) ?_
            show own_Go p e below s _ _ _ (T478.setTop (mkF m 229 #[.val (.long p1), .second, .val (.long p2), .second, .val (.int p3), .val (.int p4), .val (.int p5), .val (.ref b186), .val (.ref b209), .val (.int (1 : Int32)), .val (.int p3), .val (.int ((p5 >>> ((2 : Int32) &&& 31)) &&& (3 : Int32))), .val (.ref b186), .val (.ref b434), .val (.ref b445), .val (.int (if b186 = b186 then (if p3 = p3 then (1 : Int32) else 0) else 0)), .unset] [(.int (1 : Int32))]))
            refine own_st (fun _ k => XS.goto X478.here hx rfl (pc0 := 229) (pc' := 233) rfl (hb hby at_229) (by decide) (by decide) k) ?_
            show own_Go p e below s _ _ _ (T478.setTop (mkF m 233 #[.val (.long p1), .second, .val (.long p2), .second, .val (.int p3), .val (.int p4), .val (.int p5), .val (.ref b186), .val (.ref b209), .val (.int (1 : Int32)), .val (.int p3), .val (.int ((p5 >>> ((2 : Int32) &&& 31)) &&& (3 : Int32))), .val (.ref b186), .val (.ref b434), .val (.ref b445), .val (.int (if b186 = b186 then (if p3 = p3 then (1 : Int32) else 0) else 0)), .unset] [(.int (1 : Int32))]))
            refine own_st (fun _ k => XS.istore X478.here hx rfl (hb hby at_233) rfl (l' := #[.val (.long p1), .second, .val (.long p2), .second, .val (.int p3), .val (.int p4), .val (.int p5), .val (.ref b186), .val (.ref b209), .val (.int (1 : Int32)), .val (.int p3), .val (.int ((p5 >>> ((2 : Int32) &&& 31)) &&& (3 : Int32))), .val (.ref b186), .val (.ref b434), .val (.ref b445), .val (.int (1 : Int32)), .unset]) rfl k) ?_
            show own_Go p e below s _ _ _ (T478.setTop (mkF m 235 #[.val (.long p1), .second, .val (.long p2), .second, .val (.int p3), .val (.int p4), .val (.int p5), .val (.ref b186), .val (.ref b209), .val (.int (1 : Int32)), .val (.int p3), .val (.int ((p5 >>> ((2 : Int32) &&& 31)) &&& (3 : Int32))), .val (.ref b186), .val (.ref b434), .val (.ref b445), .val (.int (1 : Int32)), .unset] []))
            refine own_st (fun _ k => XS.goto X478.here hx rfl (pc0 := 235) (pc' := 282) rfl (hb hby at_235) (by decide) (by decide) k) ?_
            show own_Go p e below s _ _ _ (T478.setTop (mkF m 282 #[.val (.long p1), .second, .val (.long p2), .second, .val (.int p3), .val (.int p4), .val (.int p5), .val (.ref b186), .val (.ref b209), .val (.int (1 : Int32)), .val (.int p3), .val (.int ((p5 >>> ((2 : Int32) &&& 31)) &&& (3 : Int32))), .val (.ref b186), .val (.ref b434), .val (.ref b445), .val (.int (1 : Int32)), .unset] []))
            refine own_st (fun _ k => XS.iload X478.here hx rfl (hb hby at_282) rfl k) ?_
            show own_Go p e below s _ _ _ (T478.setTop (mkF m 284 #[.val (.long p1), .second, .val (.long p2), .second, .val (.int p3), .val (.int p4), .val (.int p5), .val (.ref b186), .val (.ref b209), .val (.int (1 : Int32)), .val (.int p3), .val (.int ((p5 >>> ((2 : Int32) &&& 31)) &&& (3 : Int32))), .val (.ref b186), .val (.ref b434), .val (.ref b445), .val (.int (1 : Int32)), .unset] [(.int (1 : Int32))]))
            refine own_retN X478 hx hlk Bd.returns (t := .boolean) (z' := (1 : Int32)) (by simp) (by decide) (hb hby at_284) (by decide) (by decide) ?_
            rw [eh478]
            exact ⟨N480, rfl⟩
          · refine own_st (fun _ k => XS.icmpYes X456.here hx rfl (pc0 := 207) (pc' := 238) rfl (hb hby at_207) rfl (XT.ii_ne_t hc470) (by decide) (by decide) k) ?_
            show own_Go p e below s _ _ _ (T456.setTop (mkF m 238 #[.val (.long p1), .second, .val (.long p2), .second, .val (.int p3), .val (.int p4), .val (.int p5), .val (.ref b186), .val (.ref b209), .val (.int (1 : Int32)), .val (.int p3), .val (.int ((p5 >>> ((2 : Int32) &&& 31)) &&& (3 : Int32))), .val (.ref b186), .val (.ref b434), .val (.ref b445), .val (.int (if b186 = b186 then (if p3 = p3 then (1 : Int32) else 0) else 0)), .unset] []))
            refine own_st (fun _ k => XS.iload X456.here hx rfl (hb hby at_238) rfl k) ?_
            show own_Go p e below s _ _ _ (T456.setTop (mkF m 240 #[.val (.long p1), .second, .val (.long p2), .second, .val (.int p3), .val (.int p4), .val (.int p5), .val (.ref b186), .val (.ref b209), .val (.int (1 : Int32)), .val (.int p3), .val (.int ((p5 >>> ((2 : Int32) &&& 31)) &&& (3 : Int32))), .val (.ref b186), .val (.ref b434), .val (.ref b445), .val (.int (if b186 = b186 then (if p3 = p3 then (1 : Int32) else 0) else 0)), .unset] [(.int (1 : Int32))]))
            refine own_st (fun _ k => XS.ifNo X456.here hx rfl (hb hby at_240) rfl (XT.i0_eq_f (by decide)) k) ?_
            show own_Go p e below s _ _ _ (T456.setTop (mkF m 243 #[.val (.long p1), .second, .val (.long p2), .second, .val (.int p3), .val (.int p4), .val (.int p5), .val (.ref b186), .val (.ref b209), .val (.int (1 : Int32)), .val (.int p3), .val (.int ((p5 >>> ((2 : Int32) &&& 31)) &&& (3 : Int32))), .val (.ref b186), .val (.ref b434), .val (.ref b445), .val (.int (if b186 = b186 then (if p3 = p3 then (1 : Int32) else 0) else 0)), .unset] []))
            refine own_st (fun _ k => XS.iload X456.here hx rfl (hb hby at_243) rfl k) ?_
            show own_Go p e below s _ _ _ (T456.setTop (mkF m 245 #[.val (.long p1), .second, .val (.long p2), .second, .val (.int p3), .val (.int p4), .val (.int p5), .val (.ref b186), .val (.ref b209), .val (.int (1 : Int32)), .val (.int p3), .val (.int ((p5 >>> ((2 : Int32) &&& 31)) &&& (3 : Int32))), .val (.ref b186), .val (.ref b434), .val (.ref b445), .val (.int (if b186 = b186 then (if p3 = p3 then (1 : Int32) else 0) else 0)), .unset] [(.int p3)]))
            by_cases hc481 : p3 = 0
            · refine own_st (fun _ k => XS.ifNo X456.here hx rfl (hb hby at_245) rfl (XT.i0_ne_f hc481) k) ?_
              show own_Go p e below s _ _ _ (T456.setTop (mkF m 248 #[.val (.long p1), .second, .val (.long p2), .second, .val (.int p3), .val (.int p4), .val (.int p5), .val (.ref b186), .val (.ref b209), .val (.int (1 : Int32)), .val (.int p3), .val (.int ((p5 >>> ((2 : Int32) &&& 31)) &&& (3 : Int32))), .val (.ref b186), .val (.ref b434), .val (.ref b445), .val (.int (if b186 = b186 then (if p3 = p3 then (1 : Int32) else 0) else 0)), .unset] []))
              refine own_st (fun _ k => XT.iconstV X456.here hx rfl (1 : Int32) (hb hby at_248) (by decide) k) ?_
              show own_Go p e below s _ _ _ (T456.setTop (mkF m 249 #[.val (.long p1), .second, .val (.long p2), .second, .val (.int p3), .val (.int p4), .val (.int p5), .val (.ref b186), .val (.ref b209), .val (.int (1 : Int32)), .val (.int p3), .val (.int ((p5 >>> ((2 : Int32) &&& 31)) &&& (3 : Int32))), .val (.ref b186), .val (.ref b434), .val (.ref b445), .val (.int (if b186 = b186 then (if p3 = p3 then (1 : Int32) else 0) else 0)), .unset] [(.int (1 : Int32))]))
              refine own_st (fun _ k => XS.goto X456.here hx rfl (pc0 := 249) (pc' := 253) rfl (hb hby at_249) (by decide) (by decide) k) ?_
              show own_Go p e below s _ _ _ (T456.setTop (mkF m 253 #[.val (.long p1), .second, .val (.long p2), .second, .val (.int p3), .val (.int p4), .val (.int p5), .val (.ref b186), .val (.ref b209), .val (.int (1 : Int32)), .val (.int p3), .val (.int ((p5 >>> ((2 : Int32) &&& 31)) &&& (3 : Int32))), .val (.ref b186), .val (.ref b434), .val (.ref b445), .val (.int (if b186 = b186 then (if p3 = p3 then (1 : Int32) else 0) else 0)), .unset] [(.int (1 : Int32))]))
              refine own_st (fun _ k => XS.istore X456.here hx rfl (hb hby at_253) rfl (l' := #[.val (.long p1), .second, .val (.long p2), .second, .val (.int p3), .val (.int p4), .val (.int p5), .val (.ref b186), .val (.ref b209), .val (.int (1 : Int32)), .val (.int p3), .val (.int ((p5 >>> ((2 : Int32) &&& 31)) &&& (3 : Int32))), .val (.ref b186), .val (.ref b434), .val (.ref b445), .val (.int (if b186 = b186 then (if p3 = p3 then (1 : Int32) else 0) else 0)), .val (.int (1 : Int32))]) rfl k) ?_
              show own_Go p e below s _ _ _ (T456.setTop (mkF m 255 #[.val (.long p1), .second, .val (.long p2), .second, .val (.int p3), .val (.int p4), .val (.int p5), .val (.ref b186), .val (.ref b209), .val (.int (1 : Int32)), .val (.int p3), .val (.int ((p5 >>> ((2 : Int32) &&& 31)) &&& (3 : Int32))), .val (.ref b186), .val (.ref b434), .val (.ref b445), .val (.int (if b186 = b186 then (if p3 = p3 then (1 : Int32) else 0) else 0)), .val (.int (1 : Int32))] []))
              refine own_st (fun _ k => XS.iload X456.here hx rfl (hb hby at_255) rfl k) ?_
              show own_Go p e below s _ _ _ (T456.setTop (mkF m 257 #[.val (.long p1), .second, .val (.long p2), .second, .val (.int p3), .val (.int p4), .val (.int p5), .val (.ref b186), .val (.ref b209), .val (.int (1 : Int32)), .val (.int p3), .val (.int ((p5 >>> ((2 : Int32) &&& 31)) &&& (3 : Int32))), .val (.ref b186), .val (.ref b434), .val (.ref b445), .val (.int (if b186 = b186 then (if p3 = p3 then (1 : Int32) else 0) else 0)), .val (.int (1 : Int32))] [(.int (if b186 = b186 then (if p3 = p3 then (1 : Int32) else 0) else 0))]))
              refine own_st (fun _ k => XS.ifNo X456.here hx rfl (hb hby at_257) rfl (XT.i0_eq_f (by simp)) k) ?_
              show own_Go p e below s _ _ _ (T456.setTop (mkF m 260 #[.val (.long p1), .second, .val (.long p2), .second, .val (.int p3), .val (.int p4), .val (.int p5), .val (.ref b186), .val (.ref b209), .val (.int (1 : Int32)), .val (.int p3), .val (.int ((p5 >>> ((2 : Int32) &&& 31)) &&& (3 : Int32))), .val (.ref b186), .val (.ref b434), .val (.ref b445), .val (.int (if b186 = b186 then (if p3 = p3 then (1 : Int32) else 0) else 0)), .val (.int (1 : Int32))] []))
              refine own_st (fun _ k => XS.aload X456.here hx rfl (hb hby at_260) rfl rfl k) ?_
              show own_Go p e below s _ _ _ (T456.setTop (mkF m 262 #[.val (.long p1), .second, .val (.long p2), .second, .val (.int p3), .val (.int p4), .val (.int p5), .val (.ref b186), .val (.ref b209), .val (.int (1 : Int32)), .val (.int p3), .val (.int ((p5 >>> ((2 : Int32) &&& 31)) &&& (3 : Int32))), .val (.ref b186), .val (.ref b434), .val (.ref b445), .val (.int (if b186 = b186 then (if p3 = p3 then (1 : Int32) else 0) else 0)), .val (.int (1 : Int32))] [(.ref b434)]))
              refine own_st (fun _ k => XS.aload X456.here hx rfl (hb hby at_262) rfl rfl k) ?_
              show own_Go p e below s _ _ _ (T456.setTop (mkF m 264 #[.val (.long p1), .second, .val (.long p2), .second, .val (.int p3), .val (.int p4), .val (.int p5), .val (.ref b186), .val (.ref b209), .val (.int (1 : Int32)), .val (.int p3), .val (.int ((p5 >>> ((2 : Int32) &&& 31)) &&& (3 : Int32))), .val (.ref b186), .val (.ref b434), .val (.ref b445), .val (.int (if b186 = b186 then (if p3 = p3 then (1 : Int32) else 0) else 0)), .val (.int (1 : Int32))] [(.ref b186), (.ref b434)]))
              have ne482 : b186 ≠ b209 := Nat.ne_of_lt (Nat.lt_of_lt_of_le (Nat.lt_of_lt_of_le A186.lt K198.1) (Nat.le_of_eq g209.symm))
              have ne483 : b186 ≠ b434 := Nat.ne_of_lt (Nat.lt_of_lt_of_le (Nat.lt_of_lt_of_le A186.lt (Nat.le_trans (Nat.le_trans K198.1 E209.1) K221.1)) (Nat.le_of_eq g434.symm))
              have ne484 : b186 ≠ b445 := Nat.ne_of_lt (Nat.lt_of_lt_of_le (Nat.lt_of_lt_of_le A186.lt (Nat.le_trans (Nat.le_trans (Nat.le_trans (Nat.le_trans K198.1 E209.1) K221.1) E434.1) K439.1)) (Nat.le_of_eq g445.symm))
              have F485 : Fld Z T450.heap b186 "com/example/treeloom/treeloom/xdm/Tree" "root" "Lcom/example/treeloom/treeloom/xdm/Node;" (.ref x199) := ((((((q202.ext E209).keep K221 (ninS ne482 nin0)).ext E434).keep K439 (ninS ne483 nin0)).ext E445).keep K450 (ninS ne484 nin0))
              obtain ⟨T486, X486, e486, st486⟩ := getF X456 hx hZ hown (host := "") (Or.inl (hw _ (List.mem_of_getElem? (i := 65) rfl))) Via.refl eh456 F485 (g := (mkF m 264 #[.val (.long p1), .second, .val (.long p2), .second, .val (.int p3), .val (.int p4), .val (.int p5), .val (.ref b186), .val (.ref b209), .val (.int (1 : Int32)), .val (.int p3), .val (.int ((p5 >>> ((2 : Int32) &&& 31)) &&& (3 : Int32))), .val (.ref b186), .val (.ref b434), .val (.ref b445), .val (.int (if b186 = b186 then (if p3 = p3 then (1 : Int32) else 0) else 0)), .val (.int (1 : Int32))] [(.ref b186), (.ref b434)])) rfl rfl (hb hby at_264)
              refine own_st st486 ?_
              show own_Go p e below s _ _ _ (T486.setTop (mkF m 267 #[.val (.long p1), .second, .val (.long p2), .second, .val (.int p3), .val (.int p4), .val (.int p5), .val (.ref b186), .val (.ref b209), .val (.int (1 : Int32)), .val (.int p3), .val (.int ((p5 >>> ((2 : Int32) &&& 31)) &&& (3 : Int32))), .val (.ref b186), .val (.ref b434), .val (.ref b445), .val (.int (if b186 = b186 then (if p3 = p3 then (1 : Int32) else 0) else 0)), .val (.int (1 : Int32))] [(.ref x199), (.ref b434)]))
              have F488 : Exa Z T450.heap x199 "com/example/treeloom/treeloom/xdm/Node" := ((((((q203.ext E209).keep K221).ext E434).keep K439).ext E445).keep K450)
              have ne489 : x199 ≠ b209 := Nat.ne_of_lt (Nat.lt_of_lt_of_le q203.lt (Nat.le_of_eq g209.symm))
              have ne490 : x199 ≠ b434 := Nat.ne_of_lt (Nat.lt_of_lt_of_le (Nat.lt_of_lt_of_le q203.lt (Nat.le_trans E209.1 K221.1)) (Nat.le_of_eq g434.symm))
              have ne491 : x199 ≠ b445 := Nat.ne_of_lt (Nat.lt_of_lt_of_le (Nat.lt_of_lt_of_le q203.lt (Nat.le_trans (Nat.le_trans (Nat.le_trans E209.1 K221.1) E434.1) K439.1)) (Nat.le_of_eq g445.symm))
              have F492 : Fld Z T450.heap x199 "com/example/treeloom/treeloom/xdm/Node" "tree" "Lcom/example/treeloom/treeloom/xdm/Tree;" (.ref b186) := ((((((q204.ext E209).keep K221 (ninS ne489 nin0)).ext E434).keep K439 (ninS ne490 nin0)).ext E445).keep K450 (ninS ne491 nin0))
              have F493 : Fld Z T450.heap x199 "com/example/treeloom/treeloom/xdm/Node" "index" "I" (.int (0 : Int32)) := ((((((q205.ext E209).keep K221 (ninS ne489 nin0)).ext E434).keep K439 (ninS ne490 nin0)).ext E445).keep K450 (ninS ne491 nin0))
              obtain ⟨cq487, kq487, q487a, q487b, q487c⟩ := isOf hZ e486 F457
              obtain ⟨_, _, ⟨T487, L487, k487, n487⟩, -, X487, ⟨Lc487, hQ487, l487, y487, z487⟩, st487⟩ := X486.virtualBack hx (y := (⟨"com/example/treeloom/treeloom/xdm/Node", "equals", "(Ljava/lang/Object;)Z"⟩ : MethodName)) (z := (⟨"com/example/treeloom/treeloom/xdm/Node", "equals", "(Ljava/lang/Object;)Z"⟩ : MethodName)) hown (mvT hZ (hw _ (List.mem_of_getElem? (i := 48) rfl))) (mvT hZ (hw _ (List.mem_of_getElem? (i := 49) rfl))) (notFace_of_selects (args := #[]) (mvT hZ (hw _ (List.mem_of_getElem? (i := 51) rfl)))) (mvT hZ (hw _ (List.mem_of_getElem? (i := 51) rfl))) (mvT hZ (hw _ (List.mem_of_getElem? (i := 50) rfl))) (by decide) (backOf (W := 0) (own_rm_eqO l Z a0 hw [] b434 x199 b186 b186 p3 (0 : Int32) T450.heap n0 Zs455 F488 F459 F460 F492 F493) hZ (hw _ (List.mem_of_getElem? (i := 52) rfl)) (hw _ (List.mem_of_getElem? (i := 35) rfl)) (by decide) (by decide)) q487a q487c (g := (mkF m 267 #[.val (.long p1), .second, .val (.long p2), .second, .val (.int p3), .val (.int p4), .val (.int p5), .val (.ref b186), .val (.ref b209), .val (.int (1 : Int32)), .val (.int p3), .val (.int ((p5 >>> ((2 : Int32) &&& 31)) &&& (3 : Int32))), .val (.ref b186), .val (.ref b434), .val (.ref b445), .val (.int (if b186 = b186 then (if p3 = p3 then (1 : Int32) else 0) else 0)), .val (.int (1 : Int32))] [(.ref x199), (.ref b434)])) rfl (by rw [hml]; rfl) (Steps.refl _) (argsL := [(.ref x199)]) (rest := []) (lenOf own_pd4 rfl) rfl (by show 2 * 0 + _ ≤ _; exact Nat.le_of_eq rfl) (hb hby at_267) (fun _ _ => ⟨rfl, e486, (by decide : 18 + 0 ≤ _), (by decide : 220 + 0 ≤ _)⟩)
              dsimp only [Pt.U, Pt.locs, Pt.cells, Pt.slots] at X487 l487 y487 z487 st487 hQ487
              subst l487 y487 z487
              obtain ⟨N487q, rfl, eh487⟩ := hQ487
              have N494 := Fr.app N461 N487q
              refine own_tr st487 ?_
              show own_Go p e below s _ _ _ (T487.setTop (mkF m 270 #[.val (.long p1), .second, .val (.long p2), .second, .val (.int p3), .val (.int p4), .val (.int p5), .val (.ref b186), .val (.ref b209), .val (.int (1 : Int32)), .val (.int p3), .val (.int ((p5 >>> ((2 : Int32) &&& 31)) &&& (3 : Int32))), .val (.ref b186), .val (.ref b434), .val (.ref b445), .val (.int (if b186 = b186 then (if p3 = p3 then (1 : Int32) else 0) else 0)), .val (.int (1 : Int32))] [(.int (if b186 = b186 then (if p3 = (0 : Int32) then (1 : Int32) else 0) else 0))]))
              refine own_st (fun _ k => XS.iload X487.here hx rfl (hb hby at_270) rfl k) ?_
              show own_Go p e below s _ _ _ (T487.setTop (mkF m 272 #[.val (.long p1), .second, .val (.long p2), .second, .val (.int p3), .val (.int p4), .val (.int p5), .val (.ref b186), .val (.ref b209), .val (.int (1 : Int32)), .val (.int p3), .val (.int ((p5 >>> ((2 : Int32) &&& 31)) &&& (3 : Int32))), .val (.ref b186), .val (.ref b434), .val (.ref b445), .val (.int (if b186 = b186 then (if p3 = p3 then (1 : Int32) else 0) else 0)), .val (.int (1 : Int32))] [(.int (1 : Int32)), (.int (if b186 = b186 then (if p3 = (0 : Int32) then (1 : Int32) else 0) else 0))]))
              refine own_st (fun _ k => XS.icmpNo X487.here hx rfl (hb hby at_272) rfl (XT.ii_ne_f (by simp [hc481])) k) ?_
              show own_Go p e below s _ _ _ (T487.setTop (mkF m 275 #[.val (.long p1), .second, .val (.long p2), .second, .val (.int p3), .val (.int p4), .val (.int p5), .val (.ref b186), .val (.ref b209), .val (.int (1 : Int32)), .val (.int p3), .val (.int ((p5 >>> ((2 : Int32) &&& 31)) &&& (3 : Int32))), .val (.ref b186), .val (.ref b434), .val (.ref b445), .val (.int (if b186 = b186 then (if p3 = p3 then (1 : Int32) else 0) else 0)), .val (.int (1 : Int32))] []))
              refine own_st (fun _ k => XT.iconstV X487.here hx rfl (1 : Int32) (hb hby at_275) (by decide) k) ?_
              show own_Go p e below s _ _ _ (T487.setTop (mkF m 276 #[.val (.long p1), .second, .val (.long p2), .second, .val (.int p3), .val (.int p4), .val (.int p5), .val (.ref b186), .val (.ref b209), .val (.int (1 : Int32)), .val (.int p3), .val (.int ((p5 >>> ((2 : Int32) &&& 31)) &&& (3 : Int32))), .val (.ref b186), .val (.ref b434), .val (.ref b445), .val (.int (if b186 = b186 then (if p3 = p3 then (1 : Int32) else 0) else 0)), .val (.int (1 : Int32))] [(.int (1 : Int32))]))
              refine own_st (fun _ k => XS.goto X487.here hx rfl (pc0 := 276) (pc' := 280) rfl (hb hby at_276) (by decide) (by decide) k) ?_
              show own_Go p e below s _ _ _ (T487.setTop (mkF m 280 #[.val (.long p1), .second, .val (.long p2), .second, .val (.int p3), .val (.int p4), .val (.int p5), .val (.ref b186), .val (.ref b209), .val (.int (1 : Int32)), .val (.int p3), .val (.int ((p5 >>> ((2 : Int32) &&& 31)) &&& (3 : Int32))), .val (.ref b186), .val (.ref b434), .val (.ref b445), .val (.int (if b186 = b186 then (if p3 = p3 then (1 : Int32) else 0) else 0)), .val (.int (1 : Int32))] [(.int (1 : Int32))]))
              refine own_st (fun _ k => XS.istore X487.here hx rfl (hb hby at_280) rfl (l' := #[.val (.long p1), .second, .val (.long p2), .second, .val (.int p3), .val (.int p4), .val (.int p5), .val (.ref b186), .val (.ref b209), .val (.int (1 : Int32)), .val (.int p3), .val (.int ((p5 >>> ((2 : Int32) &&& 31)) &&& (3 : Int32))), .val (.ref b186), .val (.ref b434), .val (.ref b445), .val (.int (1 : Int32)), .val (.int (1 : Int32))]) rfl k) ?_
              show own_Go p e below s _ _ _ (T487.setTop (mkF m 282 #[.val (.long p1), .second, .val (.long p2), .second, .val (.int p3), .val (.int p4), .val (.int p5), .val (.ref b186), .val (.ref b209), .val (.int (1 : Int32)), .val (.int p3), .val (.int ((p5 >>> ((2 : Int32) &&& 31)) &&& (3 : Int32))), .val (.ref b186), .val (.ref b434), .val (.ref b445), .val (.int (1 : Int32)), .val (.int (1 : Int32))] []))
              refine own_st (fun _ k => XS.iload X487.here hx rfl (hb hby at_282) rfl k) ?_
              show own_Go p e below s _ _ _ (T487.setTop (mkF m 284 #[.val (.long p1), .second, .val (.long p2), .second, .val (.int p3), .val (.int p4), .val (.int p5), .val (.ref b186), .val (.ref b209), .val (.int (1 : Int32)), .val (.int p3), .val (.int ((p5 >>> ((2 : Int32) &&& 31)) &&& (3 : Int32))), .val (.ref b186), .val (.ref b434), .val (.ref b445), .val (.int (1 : Int32)), .val (.int (1 : Int32))] [(.int (1 : Int32))]))
              refine own_retN X487 hx hlk Bd.returns (t := .boolean) (z' := (1 : Int32)) (by simp) (by decide) (hb hby at_284) (by decide) (by decide) ?_
              rw [eh487]
              exact ⟨N494, rfl⟩
            · refine own_st (fun _ k => XS.ifYes X456.here hx rfl (pc0 := 245) (pc' := 252) rfl (hb hby at_245) rfl (XT.i0_ne_t hc481) (by decide) (by decide) k) ?_
              show own_Go p e below s _ _ _ (T456.setTop (mkF m 252 #[.val (.long p1), .second, .val (.long p2), .second, .val (.int p3), .val (.int p4), .val (.int p5), .val (.ref b186), .val (.ref b209), .val (.int (1 : Int32)), .val (.int p3), .val (.int ((p5 >>> ((2 : Int32) &&& 31)) &&& (3 : Int32))), .val (.ref b186), .val (.ref b434), .val (.ref b445), .val (.int (if b186 = b186 then (if p3 = p3 then (1 : Int32) else 0) else 0)), .unset] []))
              refine own_st (fun _ k => XT.iconstV X456.here hx rfl (0 : Int32) (hb hby at_252) (by decide) k) ?_
              show own_Go p e below s _ _ _ (T456.setTop (mkF m 253 #[.val (.long p1), .second, .val (.long p2), .second, .val (.int p3), .val (.int p4), .val (.int p5), .val (.ref b186), .val (.ref b209), .val (.int (1 : Int32)), .val (.int p3), .val (.int ((p5 >>> ((2 : Int32) &&& 31)) &&& (3 : Int32))), .val (.ref b186), .val (.ref b434), .val (.ref b445), .val (.int (if b186 = b186 then (if p3 = p3 then (1 : Int32) else 0) else 0)), .unset] [(.int (0 : Int32))]))
              refine own_st (fun _ k => XS.istore X456.here hx rfl (hb hby at_253) rfl (l' := #[.val (.long p1), .second, .val (.long p2), .second, .val (.int p3), .val (.int p4), .val (.int p5), .val (.ref b186), .val (.ref b209), .val (.int (1 : Int32)), .val (.int p3), .val (.int ((p5 >>> ((2 : Int32) &&& 31)) &&& (3 : Int32))), .val (.ref b186), .val (.ref b434), .val (.ref b445), .val (.int (if b186 = b186 then (if p3 = p3 then (1 : Int32) else 0) else 0)), .val (.int (0 : Int32))]) rfl k) ?_
              show own_Go p e below s _ _ _ (T456.setTop (mkF m 255 #[.val (.long p1), .second, .val (.long p2), .second, .val (.int p3), .val (.int p4), .val (.int p5), .val (.ref b186), .val (.ref b209), .val (.int (1 : Int32)), .val (.int p3), .val (.int ((p5 >>> ((2 : Int32) &&& 31)) &&& (3 : Int32))), .val (.ref b186), .val (.ref b434), .val (.ref b445), .val (.int (if b186 = b186 then (if p3 = p3 then (1 : Int32) else 0) else 0)), .val (.int (0 : Int32))] []))
              refine own_st (fun _ k => XS.iload X456.here hx rfl (hb hby at_255) rfl k) ?_
              show own_Go p e below s _ _ _ (T456.setTop (mkF m 257 #[.val (.long p1), .second, .val (.long p2), .second, .val (.int p3), .val (.int p4), .val (.int p5), .val (.ref b186), .val (.ref b209), .val (.int (1 : Int32)), .val (.int p3), .val (.int ((p5 >>> ((2 : Int32) &&& 31)) &&& (3 : Int32))), .val (.ref b186), .val (.ref b434), .val (.ref b445), .val (.int (if b186 = b186 then (if p3 = p3 then (1 : Int32) else 0) else 0)), .val (.int (0 : Int32))] [(.int (if b186 = b186 then (if p3 = p3 then (1 : Int32) else 0) else 0))]))
              refine own_st (fun _ k => XS.ifNo X456.here hx rfl (hb hby at_257) rfl (XT.i0_eq_f (by simp)) k) ?_
              show own_Go p e below s _ _ _ (T456.setTop (mkF m 260 #[.val (.long p1), .second, .val (.long p2), .second, .val (.int p3), .val (.int p4), .val (.int p5), .val (.ref b186), .val (.ref b209), .val (.int (1 : Int32)), .val (.int p3), .val (.int ((p5 >>> ((2 : Int32) &&& 31)) &&& (3 : Int32))), .val (.ref b186), .val (.ref b434), .val (.ref b445), .val (.int (if b186 = b186 then (if p3 = p3 then (1 : Int32) else 0) else 0)), .val (.int (0 : Int32))] []))
              refine own_st (fun _ k => XS.aload X456.here hx rfl (hb hby at_260) rfl rfl k) ?_
              show own_Go p e below s _ _ _ (T456.setTop (mkF m 262 #[.val (.long p1), .second, .val (.long p2), .second, .val (.int p3), .val (.int p4), .val (.int p5), .val (.ref b186), .val (.ref b209), .val (.int (1 : Int32)), .val (.int p3), .val (.int ((p5 >>> ((2 : Int32) &&& 31)) &&& (3 : Int32))), .val (.ref b186), .val (.ref b434), .val (.ref b445), .val (.int (if b186 = b186 then (if p3 = p3 then (1 : Int32) else 0) else 0)), .val (.int (0 : Int32))] [(.ref b434)]))
              refine own_st (fun _ k => XS.aload X456.here hx rfl (hb hby at_262) rfl rfl k) ?_
              show own_Go p e below s _ _ _ (T456.setTop (mkF m 264 #[.val (.long p1), .second, .val (.long p2), .second, .val (.int p3), .val (.int p4), .val (.int p5), .val (.ref b186), .val (.ref b209), .val (.int (1 : Int32)), .val (.int p3), .val (.int ((p5 >>> ((2 : Int32) &&& 31)) &&& (3 : Int32))), .val (.ref b186), .val (.ref b434), .val (.ref b445), .val (.int (if b186 = b186 then (if p3 = p3 then (1 : Int32) else 0) else 0)), .val (.int (0 : Int32))] [(.ref b186), (.ref b434)]))
              have ne495 : b186 ≠ b209 := Nat.ne_of_lt (Nat.lt_of_lt_of_le (Nat.lt_of_lt_of_le A186.lt K198.1) (Nat.le_of_eq g209.symm))
              have ne496 : b186 ≠ b434 := Nat.ne_of_lt (Nat.lt_of_lt_of_le (Nat.lt_of_lt_of_le A186.lt (Nat.le_trans (Nat.le_trans K198.1 E209.1) K221.1)) (Nat.le_of_eq g434.symm))
              have ne497 : b186 ≠ b445 := Nat.ne_of_lt (Nat.lt_of_lt_of_le (Nat.lt_of_lt_of_le A186.lt (Nat.le_trans (Nat.le_trans (Nat.le_trans (Nat.le_trans K198.1 E209.1) K221.1) E434.1) K439.1)) (Nat.le_of_eq g445.symm))
              have F498 : Fld Z T450.heap b186 "com/example/treeloom/treeloom/xdm/Tree" "root" "Lcom/example/treeloom/treeloom/xdm/Node;" (.ref x199) := ((((((q202.ext E209).keep K221 (ninS ne495 nin0)).ext E434).keep K439 (ninS ne496 nin0)).ext E445).keep K450 (ninS ne497 nin0))
              obtain ⟨T499, X499, e499, st499⟩ := getF X456 hx hZ hown (host := "") (Or.inl (hw _ (List.mem_of_getElem? (i := 65) rfl))) Via.refl eh456 F498 (g := (mkF m 264 #[.val (.long p1), .second, .val (.long p2), .second, .val (.int p3), .val (.int p4), .val (.int p5), .val (.ref b186), .val (.ref b209), .val (.int (1 : Int32)), .val (.int p3), .val (.int ((p5 >>> ((2 : Int32) &&& 31)) &&& (3 : Int32))), .val (.ref b186), .val (.ref b434), .val (.ref b445), .val (.int (if b186 = b186 then (if p3 = p3 then (1 : Int32) else 0) else 0)), .val (.int (0 : Int32))] [(.ref b186), (.ref b434)])) rfl rfl (hb hby at_264)
              refine own_st st499 ?_
              show own_Go p e below s _ _ _ (T499.setTop (mkF m 267 #[.val (.long p1), .second, .val (.long p2), .second, .val (.int p3), .val (.int p4), .val (.int p5), .val (.ref b186), .val (.ref b209), .val (.int (1 : Int32)), .val (.int p3), .val (.int ((p5 >>> ((2 : Int32) &&& 31)) &&& (3 : Int32))), .val (.ref b186), .val (.ref b434), .val (.ref b445), .val (.int (if b186 = b186 then (if p3 = p3 then (1 : Int32) else 0) else 0)), .val (.int (0 : Int32))] [(.ref x199), (.ref b434)]))
              have F501 : Exa Z T450.heap x199 "com/example/treeloom/treeloom/xdm/Node" := ((((((q203.ext E209).keep K221).ext E434).keep K439).ext E445).keep K450)
              have ne502 : x199 ≠ b209 := Nat.ne_of_lt (Nat.lt_of_lt_of_le q203.lt (Nat.le_of_eq g209.symm))
              have ne503 : x199 ≠ b434 := Nat.ne_of_lt (Nat.lt_of_lt_of_le (Nat.lt_of_lt_of_le q203.lt (Nat.le_trans E209.1 K221.1)) (Nat.le_of_eq g434.symm))
              have ne504 : x199 ≠ b445 := Nat.ne_of_lt (Nat.lt_of_lt_of_le (Nat.lt_of_lt_of_le q203.lt (Nat.le_trans (Nat.le_trans (Nat.le_trans E209.1 K221.1) E434.1) K439.1)) (Nat.le_of_eq g445.symm))
              have F505 : Fld Z T450.heap x199 "com/example/treeloom/treeloom/xdm/Node" "tree" "Lcom/example/treeloom/treeloom/xdm/Tree;" (.ref b186) := ((((((q204.ext E209).keep K221 (ninS ne502 nin0)).ext E434).keep K439 (ninS ne503 nin0)).ext E445).keep K450 (ninS ne504 nin0))
              have F506 : Fld Z T450.heap x199 "com/example/treeloom/treeloom/xdm/Node" "index" "I" (.int (0 : Int32)) := ((((((q205.ext E209).keep K221 (ninS ne502 nin0)).ext E434).keep K439 (ninS ne503 nin0)).ext E445).keep K450 (ninS ne504 nin0))
              obtain ⟨cq500, kq500, q500a, q500b, q500c⟩ := isOf hZ e499 F457
              obtain ⟨_, _, ⟨T500, L500, k500, n500⟩, -, X500, ⟨Lc500, hQ500, l500, y500, z500⟩, st500⟩ := X499.virtualBack hx (y := (⟨"com/example/treeloom/treeloom/xdm/Node", "equals", "(Ljava/lang/Object;)Z"⟩ : MethodName)) (z := (⟨"com/example/treeloom/treeloom/xdm/Node", "equals", "(Ljava/lang/Object;)Z"⟩ : MethodName)) hown (mvT hZ (hw _ (List.mem_of_getElem? (i := 48) rfl))) (mvT hZ (hw _ (List.mem_of_getElem? (i := 49) rfl))) (notFace_of_selects (args := #[]) (mvT hZ (hw _ (List.mem_of_getElem? (i := 51) rfl)))) (mvT hZ (hw _ (List.mem_of_getElem? (i := 51) rfl))) (mvT hZ (hw _ (List.mem_of_getElem? (i := 50) rfl))) (by decide) (backOf (W := 0) (own_rm_eqO l Z a0 hw [] b434 x199 b186 b186 p3 (0 : Int32) T450.heap n0 Zs455 F501 F459 F460 F505 F506) hZ (hw _ (List.mem_of_getElem? (i := 52) rfl)) (hw _ (List.mem_of_getElem? (i := 35) rfl)) (by decide) (by decide)) q500a q500c (g := (mkF m 267 #[.val (.long p1), .second, .val (.long p2), .second, .val (.int p3), .val (.int p4), .val (.int p5), .val (.ref b186), .val (.ref b209), .val (.int (1 : Int32)), .val (.int p3), .val (.int ((p5 >>> ((2 : Int32) &&& 31)) &&& (3 : Int32))), .val (.ref b186), .val (.ref b434), .val (.ref b445), .val (.int (if b186 = b186 then (if p3 = p3 then (1 : Int32) else 0) else 0)), .val (.int (0 : Int32))] [(.ref x199), (.ref b434)])) rfl (by rw [hml]; rfl) (Steps.refl _) (argsL := [(.ref x199)]) (rest := []) (lenOf own_pd4 rfl) rfl (by show 2 * 0 + _ ≤ _; exact Nat.le_of_eq rfl) (hb hby at_267) (fun _ _ => ⟨rfl, e499, (by decide : 18 + 0 ≤ _), (by decide : 220 + 0 ≤ _)⟩)
              dsimp only [Pt.U, Pt.locs, Pt.cells, Pt.slots] at X500 l500 y500 z500 st500 hQ500
              subst l500 y500 z500
              obtain ⟨N500q, rfl, eh500⟩ := hQ500
              have N507 := Fr.app N461 N500q
              refine own_tr st500 ?_
              show own_Go p e below s _ _ _ (T500.setTop (mkF m 270 #[.val (.long p1), .second, .val (.long p2), .second, .val (.int p3), .val (.int p4), .val (.int p5), .val (.ref b186), .val (.ref b209), .val (.int (1 : Int32)), .val (.int p3), .val (.int ((p5 >>> ((2 : Int32) &&& 31)) &&& (3 : Int32))), .val (.ref b186), .val (.ref b434), .val (.ref b445), .val (.int (if b186 = b186 then (if p3 = p3 then (1 : Int32) else 0) else 0)), .val (.int (0 : Int32))] [(.int (if b186 = b186 then (if p3 = (0 : Int32) then (1 : Int32) else 0) else 0))]))
              refine own_st (fun _ k => XS.iload X500.here hx rfl (hb hby at_270) rfl k) ?_
              show own_Go p e below s _ _ _ (T500.setTop (mkF m 272 #[.val (.long p1), .second, .val (.long p2), .second, .val (.int p3), .val (.int p4), .val (.int p5), .val (.ref b186), .val (.ref b209), .val (.int (1 : Int32)), .val (.int p3), .val (.int ((p5 >>> ((2 : Int32) &&& 31)) &&& (3 : Int32))), .val (.ref b186), .val (.ref b434), .val (.ref b445), .val (.int (if b186 = b186 then (if p3 = p3 then (1 : Int32) else 0) else 0)), .val (.int (0 : Int32))] [(.int (0 : Int32)), (.int (if b186 = b186 then (if p3 = (0 : Int32) then (1 : Int32) else 0) else 0))]))
              refine own_st (fun _ k => XS.icmpNo X500.here hx rfl (hb hby at_272) rfl (XT.ii_ne_f (by simp [hc481, (show ¬ (0 = p3) from fun q => hc481 q.symm)])) k) ?_
              show own_Go p e below s _ _ _ (T500.setTop (mkF m 275 #[.val (.long p1), .second, .val (.long p2), .second, .val (.int p3), .val (.int p4), .val (.int p5), .val (.ref b186), .val (.ref b209), .val (.int (1 : Int32)), .val (.int p3), .val (.int ((p5 >>> ((2 : Int32) &&& 31)) &&& (3 : Int32))), .val (.ref b186), .val (.ref b434), .val (.ref b445), .val (.int (if b186 = b186 then (if p3 = p3 then (1 : Int32) else 0) else 0)), .val (.int (0 : Int32))] []))
              refine own_st (fun _ k => XT.iconstV X500.here hx rfl (1 : Int32) (hb hby at_275) (by decide) k) ?_
              show own_Go p e below s _ _ _ (T500.setTop (mkF m 276 #[.val (.long p1), .second, .val (.long p2), .second, .val (.int p3), .val (.int p4), .val (.int p5), .val (.ref b186), .val (.ref b209), .val (.int (1 : Int32)), .val (.int p3), .val (.int ((p5 >>> ((2 : Int32) &&& 31)) &&& (3 : Int32))), .val (.ref b186), .val (.ref b434), .val (.ref b445), .val (.int (if b186 = b186 then (if p3 = p3 then (1 : Int32) else 0) else 0)), .val (.int (0 : Int32))] [(.int (1 : Int32))]))
              refine own_st (fun _ k => XS.goto X500.here hx rfl (pc0 := 276) (pc' := 280) rfl (hb hby at_276) (by decide) (by decide) k) ?_
              show own_Go p e below s _ _ _ (T500.setTop (mkF m 280 #[.val (.long p1), .second, .val (.long p2), .second, .val (.int p3), .val (.int p4), .val (.int p5), .val (.ref b186), .val (.ref b209), .val (.int (1 : Int32)), .val (.int p3), .val (.int ((p5 >>> ((2 : Int32) &&& 31)) &&& (3 : Int32))), .val (.ref b186), .val (.ref b434), .val (.ref b445), .val (.int (if b186 = b186 then (if p3 = p3 then (1 : Int32) else 0) else 0)), .val (.int (0 : Int32))] [(.int (1 : Int32))]))
              refine own_st (fun _ k => XS.istore X500.here hx rfl (hb hby at_280) rfl (l' := #[.val (.long p1), .second, .val (.long p2), .second, .val (.int p3), .val (.int p4), .val (.int p5), .val (.ref b186), .val (.ref b209), .val (.int (1 : Int32)), .val (.int p3), .val (.int ((p5 >>> ((2 : Int32) &&& 31)) &&& (3 : Int32))), .val (.ref b186), .val (.ref b434), .val (.ref b445), .val (.int (1 : Int32)), .val (.int (0 : Int32))]) rfl k) ?_
              show own_Go p e below s _ _ _ (T500.setTop (mkF m 282 #[.val (.long p1), .second, .val (.long p2), .second, .val (.int p3), .val (.int p4), .val (.int p5), .val (.ref b186), .val (.ref b209), .val (.int (1 : Int32)), .val (.int p3), .val (.int ((p5 >>> ((2 : Int32) &&& 31)) &&& (3 : Int32))), .val (.ref b186), .val (.ref b434), .val (.ref b445), .val (.int (1 : Int32)), .val (.int (0 : Int32))] []))
              refine own_st (fun _ k => XS.iload X500.here hx rfl (hb hby at_282) rfl k) ?_
              show own_Go p e below s _ _ _ (T500.setTop (mkF m 284 #[.val (.long p1), .second, .val (.long p2), .second, .val (.int p3), .val (.int p4), .val (.int p5), .val (.ref b186), .val (.ref b209), .val (.int (1 : Int32)), .val (.int p3), .val (.int ((p5 >>> ((2 : Int32) &&& 31)) &&& (3 : Int32))), .val (.ref b186), .val (.ref b434), .val (.ref b445), .val (.int (1 : Int32)), .val (.int (0 : Int32))] [(.int (1 : Int32))]))
              refine own_retN X500 hx hlk Bd.returns (t := .boolean) (z' := (1 : Int32)) (by simp) (by decide) (hb hby at_284) (by decide) (by decide) ?_
              rw [eh500]
              exact ⟨N507, rfl⟩
set_option maxRecDepth 65536 in
set_option maxHeartbeats 40000000 in
theorem comes_1 {Post : Tables → Env → Array Value → State → Outcome → State → Prop} (hpost : ∀ tb e args s v u, (limb_1_1.after args s (.returned v) u = true ∧ limb_1_2.after args s (.returned v) u = true ∧ True) → FrameEnd s (.returned v) u (Jvm.fieldLocs frame_1_writes args s ++ Jvm.arrayLocs frame_1_arrays args s ++ Jvm.staticLocs frame_1_statics s) 48 512 → Post tb e args s (.returned v) u) :
    ArmFor flags0 classFile x code maxLocals ret World_1 tables_1 room_1 Calls_1 rest_1 Pre_1 Post := by
  intro l hfl _ _ p e ha hc hk s m args below hf hA hF happ hP
  obtain ⟨hcalls, hrest, hpre⟩ := hP
  obtain ⟨-, -, -, hnamed, -, -, -, hat⟩ := (Spec.applies_iff hf).mp happ
  obtain ⟨hg, hn⟩ := and_e (Cond.before_iff.mp (show (Jvm.Cond.and given_1 narrow_1).before args s = true from hpre))
  obtain ⟨gg0, hg0⟩ := and_e hg
  obtain ⟨gg1, hg1⟩ := and_e hg0
  obtain ⟨gg2, hg2⟩ := and_e hg1
  obtain ⟨gg3, hg3⟩ := and_e hg2
  obtain ⟨gg4, hg4⟩ := and_e hg3
  obtain ⟨w0, w1, w2, w3, w4, rfl⟩ : ∃ w0 w1 w2 w3 w4 : Value, args = #[w0, w1, w2, w3, w4] := by
    have hs : args.size = 5 := by simpa [Cond.value, given_1] using gg0
    obtain ⟨L⟩ := args
    match L, hs with
    | [w0, w1, w2, w3, w4], _ => exact ⟨w0, w1, w2, w3, w4, rfl⟩
  have hw := fun d (hd : d ∈ tables_1) => atoms_spec (ws := Jvm.Cond.code x code maxLocals ret :: tables_1) hat d (List.mem_cons_of_mem _ hd)
  have hfit : Fit s := fun {y c} hc i hi => by
    obtain ⟨ha, rfl⟩ := Array.getElem?_eq_some_iff.mp hc
    have q := List.all_eq_true.mp ((Array.all_eq_true_iff_forall_mem.mp hF) _ (Array.getElem_mem ha)) i (List.mem_range.mpr hi)
    simpa [Array.getElem?_eq_getElem hi] using q
  obtain ⟨i0, ei0⟩ := isL_v gg1
  obtain rfl : w0 = (.long i0) := Option.some.inj ei0
  obtain ⟨i1, ei1⟩ := isL_v gg2
  obtain rfl : w1 = (.long i1) := Option.some.inj ei1
  obtain ⟨i2, ei2⟩ := is_v gg3
  obtain rfl : w2 = (.int i2) := Option.some.inj ei2
  obtain ⟨i3, ei3⟩ := is_v gg4
  obtain rfl : w3 = (.int i3) := Option.some.inj ei3
  obtain ⟨i4, ei4⟩ := is_v hg4
  obtain rfl : w4 = (.int i4) := Option.some.inj ei4
  have hsets := (atoms_of jdkStatics_1 (rest_1_c_eq ▸ (show rest_1_c.before _ s = true from hrest))).1
  obtain ⟨a_cacheI, e_cacheI⟩ := arr_v (Cond.before_iff.mp (hsets _ (List.mem_of_getElem? (i := 4) rfl)))
  have S_cacheI : Sta s s.heap "java/lang/Integer$IntegerCache" "cache" "[Ljava/lang/Integer;" (.ref a_cacheI) := Sta.start e_cacheI (Or.inr ⟨(hw _ (List.mem_of_getElem? (i := 60) rfl)), (hsets _ (List.mem_of_getElem? (i := 2) rfl))⟩)
  have BxI : own_BoxI s a_cacheI := own_boxI e_cacheI (hsets _ (List.mem_of_getElem? (i := 4) rfl)) (hsets _ (List.mem_of_getElem? (i := 6) rfl)) (hsets _ (List.mem_of_getElem? (i := 7) rfl))
  have S_high : Sta s s.heap "java/lang/Integer$IntegerCache" "high" "I" (.int 127) := Sta.start (own_eqV (Cond.before_iff.mp (hsets _ (List.mem_of_getElem? (i := 3) rfl))) (Term.int_eval _)) (Or.inl (hsets _ (List.mem_of_getElem? (i := 1) rfl)))
  obtain ⟨n, o, h1, h2, h3, _, L, rfl, ⟨N, rfl⟩, hq⟩ := own_law l s _ hw tables_1 i0 i1 i2 i3 i4 a_cacheI s.heap s.heap.size (Nat.le_refl _) (Old.start s) S_cacheI BxI S_high p e ha hc hk s m _ below hf ((Spec.applies_iff_loose hf).mp happ).1 ⟨rfl, State.Warmed39.refl s, rfl⟩ trivial
  refine ⟨n, _, h1, h2, h3, hpost _ _ _ _ _ _ ⟨Cond.after_iff.mpr rfl, Cond.after_iff.mpr (eq_i res_at (Term.int_eval (1)) rfl), trivial⟩ ⟨hq.1, hq.2.1, (hq.2.2.sift fun y hy => Or.inr (N y hy)).mono (by decide) (by decide)⟩⟩
theorem main_1_1 : Claimed_1_1 := comes_1 fun _ _ _ _ _ _ h hF => ⟨h.1, hF⟩
theorem main_1_2 : Claimed_1_2 := comes_1 fun _ _ _ _ _ _ h hF => ⟨h.2.1, hF⟩
end Jvm.Pilot.@@N@@
namespace Jvm.Pilot.@@N@@
open Jvm Jvm.ClassFile Sem Op Lib Jvm.Free Jvm.Stand Jvm.Pilot.@@N@@.Jvm.D
/-! MADE BY PROGRAM (witnessworld.py) out of the Statement's table words and the real class files: 24 classes; the members and pool entries that the words name. The judged class is class 1, her method 1. -/
namespace start1
open Jvm.ClassFile
def u (s : String) : CpInfo := .utf8 (stringToUtf16 s)
/-- a pool by its gaps: so many unusable entries, then the entry; so many at the end -/
def gap : Nat → List CpInfo → List CpInfo
  | 0, r => r
  | n + 1, r => .unusable :: gap n r
def poolList (es : List (Nat × CpInfo)) (last : Nat) : List CpInfo := es.foldr (fun e r => gap e.1 (e.2 :: r)) (gap last [])
def pool (es : List (Nat × CpInfo)) (last : Nat) : Array CpInfo := ⟨poolList es last⟩
def fileOf (pool : Array CpInfo) (this : Nat) (attrs : Array Attribute := #[]) (ms : Array MethodInfo := #[]) (fl : Nat := 33) (sup : Nat := 0) (ifs : Array Nat := #[]) (fds : Array FieldInfo := #[]) : ClassFile where
  minorVersion := 0
  majorVersion := 65
  constantPool := pool
  accessFlags := fl
  thisClass := this
  superClass := sup
  interfaces := ifs
  fields := fds
  methods := ms
  attributes := attrs
def plain (name : String) (sup : Option ClassId) : Class where
  name := name
  kind := .ordinary
  loader := none
  accessFlags := 33
  super := sup
  interfaces := #[]
  cf := none
  fields := #[]
  methods := #[]
  instanceTypes := #[]
  staticTypes := #[]
  resolved := #[]
  callSites := []
  init := .initialized
  statics := none
  mirror := none

def pool0 : Array CpInfo := pool [(5, u "<init>"), (0, u "()V"), (1, .class_ 10), (1, u "java/lang/Object")] 113

def k0c0 : Code := { maxStack := 0, maxLocals := 1, code := object_method_1_code, exceptionTable := #[], attributes := #[] }
def k0m0 : Method := { name := "<init>", desc := "()V", sig := { parameters := [], returnType := none }, accessFlags := 1, code := some k0c0 }
/-- java/lang/Object -/
def k0 : Class := { plain "java/lang/Object" none with
  accessFlags := 33
  interfaces := #[]
  cf := some (fileOf pool0 8 #[] #[{ accessFlags := 1, nameIndex := 5, descriptorIndex := 6, attributes := #[] }] 33 0 #[] #[])
  fields := #[]
  methods := #[k0m0]
  instanceTypes := #[]
  staticTypes := #[]
  resolved := Array.replicate 124 none
  statics := none }

def pool1 : Array CpInfo := pool [(2, .class_ 4), (1, u "java/lang/Object"), (0, u "<init>"), (0, u "()V"), (0, .class_ 8), (0, u "com/example/treeloom/treeloom/xdm/Tree"), (0, .methodref 7 10), (0, .nameAndType 5 11), (0, u "(JJ)V"), (0, .class_ 13), (0, u "com/example/treeloom/treeloom/xdm/Node"), (0, .methodref 12 15), (0, .nameAndType 5 16), (0, u "(Lcom/example/treeloom/treeloom/xdm/Tree;I)V"), (0, .methodref 12 18), (0, .nameAndType 19 20), (0, u "equals"), (0, u "(Ljava/lang/Object;)Z"), (0, .methodref 22 23), (0, .class_ 24), (0, .nameAndType 25 26), (0, u "java/lang/Integer"), (0, u "valueOf"), (0, u "(I)Ljava/lang/Integer;"), (0, .fieldref 7 28), (0, .nameAndType 29 30), (0, u "root"), (0, u "Lcom/example/treeloom/treeloom/xdm/Node;"), (0, .class_ 32), (0, u "com/example/treeloom/treeloom/xdm/NodeEqualsPinLaw"), (2, u "law"), (0, u "(JJIII)Z")] 3

def k1m0 : Method := { name := "<init>", desc := "()V", sig := { parameters := [], returnType := none }, accessFlags := 1, code := none }
def k1c1 : Code := { maxStack := 6, maxLocals := 17, code := code, exceptionTable := #[], attributes := #[] }
def k1m1 : Method := { name := "law", desc := "(JJIII)Z", sig := { parameters := [.long, .long, .int, .int, .int], returnType := some .boolean }, accessFlags := 9, code := some k1c1 }
/-- com/example/treeloom/treeloom/xdm/NodeEqualsPinLaw -/
def k1 : Class := { plain "com/example/treeloom/treeloom/xdm/NodeEqualsPinLaw" (some 0) with
  accessFlags := 49
  interfaces := #[]
  cf := some (fileOf pool1 31 #[] #[{ accessFlags := 1, nameIndex := 5, descriptorIndex := 6, attributes := #[] }, { accessFlags := 9, nameIndex := 35, descriptorIndex := 36, attributes := #[] }] 49 2 #[] #[])
  fields := #[]
  methods := #[k1m0, k1m1]
  instanceTypes := #[]
  staticTypes := #[]
  resolved := Array.replicate 40 none
  statics := none }

def pool2 : Array CpInfo := pool [(1, .methodref 2 3), (0, .class_ 4), (0, .nameAndType 5 6), (0, u "java/lang/Object"), (0, u "<init>"), (0, u "()V"), (0, .fieldref 8 9), (0, .class_ 10), (0, .nameAndType 11 12), (0, u "com/example/treeloom/treeloom/xdm/Tree"), (0, u "kinds"), (0, u "[B"), (0, .fieldref 8 14), (0, .nameAndType 15 16), (0, u "parents"), (0, u "[I"), (0, .fieldref 8 18), (0, .nameAndType 19 16), (0, u "ends"), (0, .class_ 21), (0, u "com/example/treeloom/treeloom/xdm/QName"), (0, .fieldref 8 23), (0, .nameAndType 24 25), (0, u "names"), (0, u "[Lcom/example/treeloom/treeloom/xdm/QName;"), (0, .class_ 27), (0, u "java/lang/String"), (0, .fieldref 8 29), (0, .nameAndType 30 31), (0, u "values"), (0, u "[Ljava/lang/String;"), (0, .class_ 33), (0, u "[Lcom/example/treeloom/treeloom/xdm/NamespaceBinding;"), (0, .fieldref 8 35), (0, .nameAndType 36 37), (0, u "declarations"), (0, u "[[Lcom/example/treeloom/treeloom/xdm/NamespaceBinding;"), (0, .fieldref 8 39), (0, .nameAndType 40 41), (0, u "place"), (0, u "J"), (0, .fieldref 8 43), (0, .nameAndType 44 41), (0, u "serial"), (0, .class_ 46), (0, u "com/example/treeloom/treeloom/xdm/Node"), (0, .methodref 45 48), (0, .nameAndType 5 49), (0, u "(Lcom/example/treeloom/treeloom/xdm/Tree;I)V"), (0, .fieldref 8 51), (0, .nameAndType 52 53), (0, u "root"), (0, u "Lcom/example/treeloom/treeloom/xdm/Node;"), (2, u "size"), (0, u "I"), (23, u "KINDS"), (0, u "[Lcom/example/treeloom/treeloom/xdm/NodeKind;"), (52, u "(JJ)V")] 47

def k2c0 : Code := { maxStack := 5, maxLocals := 5, code := prog_211_method_1_code, exceptionTable := #[], attributes := #[] }
def k2m0 : Method := { name := "<init>", desc := "(JJ)V", sig := { parameters := [.long, .long], returnType := none }, accessFlags := 0, code := some k2c0 }
/-- com/example/treeloom/treeloom/xdm/Tree -/
def k2 : Class := { plain "com/example/treeloom/treeloom/xdm/Tree" (some 0) with
  accessFlags := 48
  interfaces := #[]
  cf := some (fileOf pool2 8 #[] #[{ accessFlags := 0, nameIndex := 5, descriptorIndex := 135, attributes := #[] }] 48 2 #[] #[{ accessFlags := 26, nameIndex := 81, descriptorIndex := 82, attributes := #[] }, { accessFlags := 16, nameIndex := 40, descriptorIndex := 41, attributes := #[] }, { accessFlags := 16, nameIndex := 44, descriptorIndex := 41, attributes := #[] }, { accessFlags := 2, nameIndex := 11, descriptorIndex := 12, attributes := #[] }, { accessFlags := 2, nameIndex := 15, descriptorIndex := 16, attributes := #[] }, { accessFlags := 2, nameIndex := 19, descriptorIndex := 16, attributes := #[] }, { accessFlags := 2, nameIndex := 24, descriptorIndex := 25, attributes := #[] }, { accessFlags := 2, nameIndex := 30, descriptorIndex := 31, attributes := #[] }, { accessFlags := 2, nameIndex := 36, descriptorIndex := 37, attributes := #[] }, { accessFlags := 2, nameIndex := 56, descriptorIndex := 57, attributes := #[] }, { accessFlags := 16, nameIndex := 52, descriptorIndex := 53, attributes := #[] }])
  fields := #[{ name := "KINDS", type := (.array (.object "com/example/treeloom/treeloom/xdm/NodeKind")), accessFlags := 26, slot := 0, constantValue := 0 }, { name := "place", type := .long, accessFlags := 16, slot := 0, constantValue := 0 }, { name := "serial", type := .long, accessFlags := 16, slot := 1, constantValue := 0 }, { name := "kinds", type := (.array .byte), accessFlags := 2, slot := 2, constantValue := 0 }, { name := "parents", type := (.array .int), accessFlags := 2, slot := 3, constantValue := 0 }, { name := "ends", type := (.array .int), accessFlags := 2, slot := 4, constantValue := 0 }, { name := "names", type := (.array (.object "com/example/treeloom/treeloom/xdm/QName")), accessFlags := 2, slot := 5, constantValue := 0 }, { name := "values", type := (.array (.object "java/lang/String")), accessFlags := 2, slot := 6, constantValue := 0 }, { name := "declarations", type := (.array (.array (.object "com/example/treeloom/treeloom/xdm/NamespaceBinding"))), accessFlags := 2, slot := 7, constantValue := 0 }, { name := "size", type := .int, accessFlags := 2, slot := 8, constantValue := 0 }, { name := "root", type := (.object "com/example/treeloom/treeloom/xdm/Node"), accessFlags := 16, slot := 9, constantValue := 0 }]
  methods := #[k2m0]
  instanceTypes := #[.long, .long, (.array .byte), (.array .int), (.array .int), (.array (.object "com/example/treeloom/treeloom/xdm/QName")), (.array (.object "java/lang/String")), (.array (.array (.object "com/example/treeloom/treeloom/xdm/NamespaceBinding"))), .int, (.object "com/example/treeloom/treeloom/xdm/Node")]
  staticTypes := #[(.array (.object "com/example/treeloom/treeloom/xdm/NodeKind"))]
  resolved := Array.replicate 183 none
  statics := none }

def pool3 : Array CpInfo := pool [(2, .class_ 4), (1, u "java/lang/Object"), (0, u "<init>"), (0, u "()V"), (0, .class_ 8), (0, u "java/lang/Record")] 13

def k3m0 : Method := { name := "<init>", desc := "()V", sig := { parameters := [], returnType := none }, accessFlags := 4, code := none }
/-- java/lang/Record -/
def k3 : Class := { plain "java/lang/Record" (some 0) with
  accessFlags := 1057
  interfaces := #[]
  cf := some (fileOf pool3 7 #[] #[{ accessFlags := 4, nameIndex := 5, descriptorIndex := 6, attributes := #[] }] 1057 2 #[] #[])
  fields := #[]
  methods := #[k3m0]
  instanceTypes := #[]
  staticTypes := #[]
  resolved := Array.replicate 22 none
  statics := none }

def pool4 : Array CpInfo := pool [(2, .class_ 4), (1, u "java/lang/Record"), (3, u "namespaceUri"), (7, u "localName"), (1, u "prefix"), (1, .class_ 22), (1, u "com/example/treeloom/treeloom/xdm/QName"), (0, u "Ljava/lang/String;"), (32, u "XML_NAMESPACE"), (3, u "XMLNS_NAMESPACE")] 30

/-- com/example/treeloom/treeloom/xdm/QName -/
def k4 : Class := { plain "com/example/treeloom/treeloom/xdm/QName" (some 3) with
  accessFlags := 49
  interfaces := #[]
  cf := some (fileOf pool4 20 #[] #[] 49 2 #[] #[{ accessFlags := 18, nameIndex := 8, descriptorIndex := 23, attributes := #[] }, { accessFlags := 18, nameIndex := 16, descriptorIndex := 23, attributes := #[] }, { accessFlags := 18, nameIndex := 18, descriptorIndex := 23, attributes := #[] }, { accessFlags := 25, nameIndex := 56, descriptorIndex := 23, attributes := #[] }, { accessFlags := 25, nameIndex := 60, descriptorIndex := 23, attributes := #[] }])
  fields := #[{ name := "namespaceUri", type := (.object "java/lang/String"), accessFlags := 18, slot := 0, constantValue := 0 }, { name := "localName", type := (.object "java/lang/String"), accessFlags := 18, slot := 1, constantValue := 0 }, { name := "prefix", type := (.object "java/lang/String"), accessFlags := 18, slot := 2, constantValue := 0 }, { name := "XML_NAMESPACE", type := (.object "java/lang/String"), accessFlags := 25, slot := 0, constantValue := 0 }, { name := "XMLNS_NAMESPACE", type := (.object "java/lang/String"), accessFlags := 25, slot := 1, constantValue := 0 }]
  methods := #[]
  instanceTypes := #[(.object "java/lang/String"), (.object "java/lang/String"), (.object "java/lang/String")]
  staticTypes := #[(.object "java/lang/String"), (.object "java/lang/String")]
  resolved := Array.replicate 91 none
  statics := none }

def pool5 : Array CpInfo := pool [(1, .class_ 2), (0, u "java/io/Serializable"), (0, .class_ 4), (0, u "java/lang/Object")] 2

/-- java/io/Serializable -/
def k5 : Class := { plain "java/io/Serializable" (some 0) with
  accessFlags := 1537
  interfaces := #[]
  cf := some (fileOf pool5 1 #[] #[] 1537 3 #[] #[])
  fields := #[]
  methods := #[]
  instanceTypes := #[]
  staticTypes := #[]
  resolved := Array.replicate 7 none
  statics := none }

def pool6 : Array CpInfo := pool [(1, .class_ 2), (0, u "java/lang/Comparable"), (0, .class_ 4), (0, u "java/lang/Object")] 7

/-- java/lang/Comparable -/
def k6 : Class := { plain "java/lang/Comparable" (some 0) with
  accessFlags := 1537
  interfaces := #[]
  cf := some (fileOf pool6 1 #[] #[] 1537 3 #[] #[])
  fields := #[]
  methods := #[]
  instanceTypes := #[]
  staticTypes := #[]
  resolved := Array.replicate 12 none
  statics := none }

def pool7 : Array CpInfo := pool [(2, .class_ 4), (1, u "java/lang/CharSequence"), (42, .class_ 48), (0, u "java/lang/CharSequence$1CodePointIterator"), (10, .class_ 60), (0, u "java/lang/CharSequence$1CharIterator"), (5, .class_ 67), (0, u "java/lang/Object")] 63

/-- java/lang/CharSequence -/
def k7 : Class := { plain "java/lang/CharSequence" (some 0) with
  accessFlags := 1537
  interfaces := #[]
  cf := some (fileOf pool7 2 #[.nestMembers #[47, 59]] #[] 1537 66 #[] #[])
  fields := #[]
  methods := #[]
  instanceTypes := #[]
  staticTypes := #[]
  resolved := Array.replicate 131 none
  statics := none }

def pool8 : Array CpInfo := pool [(1, .class_ 2), (0, u "java/lang/constant/Constable"), (0, .class_ 4), (0, u "java/lang/Object")] 6

/-- java/lang/constant/Constable -/
def k8 : Class := { plain "java/lang/constant/Constable" (some 0) with
  accessFlags := 1537
  interfaces := #[]
  cf := some (fileOf pool8 1 #[] #[] 1537 3 #[] #[])
  fields := #[]
  methods := #[]
  instanceTypes := #[]
  staticTypes := #[]
  resolved := Array.replicate 11 none
  statics := none }

def pool9 : Array CpInfo := pool [(1, .class_ 2), (0, u "java/lang/constant/ConstantDesc"), (0, .class_ 4), (0, u "java/lang/Object")] 32

/-- java/lang/constant/ConstantDesc -/
def k9 : Class := { plain "java/lang/constant/ConstantDesc" (some 0) with
  accessFlags := 1537
  interfaces := #[]
  cf := some (fileOf pool9 1 #[] #[] 1537 3 #[] #[])
  fields := #[]
  methods := #[]
  instanceTypes := #[]
  staticTypes := #[]
  resolved := Array.replicate 37 none
  statics := none }

def pool10 : Array CpInfo := pool [(2, .class_ 4), (1, u "java/lang/Object"), (0, u "<init>"), (0, u "()V"), (3, .class_ 12), (1, u "java/lang/String"), (0, u "value"), (0, u "[B"), (2, u "coder"), (0, u "B"), (2, u "hash"), (0, u "I"), (2, u "hashIsZero"), (0, u "Z"), (13, u "COMPACT_STRINGS"), (534, .class_ 576), (0, u "java/lang/CharSequence"), (22, u "CASE_INSENSITIVE_ORDER"), (0, u "Ljava/util/Comparator;"), (500, u "serialPersistentFields"), (0, u "[Ljava/io/ObjectStreamField;"), (0, .class_ 1104), (0, u "java/lang/String$CaseInsensitiveComparator"), (1, .class_ 1107), (0, u "java/io/Serializable"), (0, .class_ 1109), (0, u "java/lang/Comparable"), (0, .class_ 1111), (0, u "java/lang/constant/Constable"), (0, .class_ 1113), (0, u "java/lang/constant/ConstantDesc"), (2, u "serialVersionUID"), (0, u "J"), (3, u "REPL"), (0, u "C"), (2, u "LATIN1"), (1, u "UTF16")] 323

def k10m0 : Method := { name := "<init>", desc := "()V", sig := { parameters := [], returnType := none }, accessFlags := 1, code := none }
/-- java/lang/String -/
def k10 : Class := { plain "java/lang/String" (some 0) with
  accessFlags := 49
  interfaces := #[5, 6, 7, 8, 9]
  cf := some (fileOf pool10 10 #[.nestMembers #[1103]] #[{ accessFlags := 1, nameIndex := 5, descriptorIndex := 6, attributes := #[] }] 49 2 #[1106, 1108, 575, 1110, 1112] #[{ accessFlags := 18, nameIndex := 13, descriptorIndex := 14, attributes := #[] }, { accessFlags := 18, nameIndex := 17, descriptorIndex := 18, attributes := #[] }, { accessFlags := 2, nameIndex := 21, descriptorIndex := 22, attributes := #[] }, { accessFlags := 2, nameIndex := 25, descriptorIndex := 26, attributes := #[] }, { accessFlags := 26, nameIndex := 1116, descriptorIndex := 1117, attributes := #[] }, { accessFlags := 24, nameIndex := 40, descriptorIndex := 26, attributes := #[] }, { accessFlags := 26, nameIndex := 1101, descriptorIndex := 1102, attributes := #[] }, { accessFlags := 26, nameIndex := 1121, descriptorIndex := 1122, attributes := #[] }, { accessFlags := 25, nameIndex := 599, descriptorIndex := 600, attributes := #[] }, { accessFlags := 24, nameIndex := 1125, descriptorIndex := 18, attributes := #[] }, { accessFlags := 24, nameIndex := 1127, descriptorIndex := 18, attributes := #[] }])
  fields := #[{ name := "value", type := (.array .byte), accessFlags := 18, slot := 0, constantValue := 0 }, { name := "coder", type := .byte, accessFlags := 18, slot := 1, constantValue := 0 }, { name := "hash", type := .int, accessFlags := 2, slot := 2, constantValue := 0 }, { name := "hashIsZero", type := .boolean, accessFlags := 2, slot := 3, constantValue := 0 }, { name := "serialVersionUID", type := .long, accessFlags := 26, slot := 0, constantValue := 0 }, { name := "COMPACT_STRINGS", type := .boolean, accessFlags := 24, slot := 1, constantValue := 0 }, { name := "serialPersistentFields", type := (.array (.object "java/io/ObjectStreamField")), accessFlags := 26, slot := 2, constantValue := 0 }, { name := "REPL", type := .char, accessFlags := 26, slot := 3, constantValue := 0 }, { name := "CASE_INSENSITIVE_ORDER", type := (.object "java/util/Comparator"), accessFlags := 25, slot := 4, constantValue := 0 }, { name := "LATIN1", type := .byte, accessFlags := 24, slot := 5, constantValue := 0 }, { name := "UTF16", type := .byte, accessFlags := 24, slot := 6, constantValue := 0 }]
  methods := #[k10m0]
  instanceTypes := #[(.array .byte), .byte, .int, .boolean]
  staticTypes := #[.long, .boolean, (.array (.object "java/io/ObjectStreamField")), .char, (.object "java/util/Comparator"), .byte, .byte]
  resolved := Array.replicate 1451 none
  statics := none }

def pool11 : Array CpInfo := pool [(1, .class_ 2), (0, u "com/example/treeloom/treeloom/xdm/Item"), (0, .class_ 4), (0, u "java/lang/Object")] 2

/-- com/example/treeloom/treeloom/xdm/Item -/
def k11 : Class := { plain "com/example/treeloom/treeloom/xdm/Item" (some 0) with
  accessFlags := 1537
  interfaces := #[]
  cf := some (fileOf pool11 1 #[] #[] 1537 3 #[] #[])
  fields := #[]
  methods := #[]
  instanceTypes := #[]
  staticTypes := #[]
  resolved := Array.replicate 7 none
  statics := none }

def pool12 : Array CpInfo := pool [(1, .methodref 2 3), (0, .class_ 4), (0, .nameAndType 5 6), (0, u "java/lang/Object"), (0, u "<init>"), (0, u "()V"), (0, .fieldref 8 9), (0, .class_ 10), (0, .nameAndType 11 12), (0, u "com/example/treeloom/treeloom/xdm/Node"), (0, u "tree"), (0, u "Lcom/example/treeloom/treeloom/xdm/Tree;"), (0, .fieldref 8 14), (0, .nameAndType 15 16), (0, u "index"), (0, u "I"), (16, u "(Lcom/example/treeloom/treeloom/xdm/Tree;I)V"), (21, u "(Ljava/lang/Object;)Z"), (102, u "DOCUMENT_ORDER"), (0, u "Ljava/util/Comparator;"), (0, .class_ 161), (0, u "com/example/treeloom/treeloom/xdm/Item"), (17, u "equals")] 51

def k12c0 : Code := { maxStack := 2, maxLocals := 3, code := prog_197_method_1_code, exceptionTable := #[], attributes := #[] }
def k12m0 : Method := { name := "<init>", desc := "(Lcom/example/treeloom/treeloom/xdm/Tree;I)V", sig := { parameters := [(.object "com/example/treeloom/treeloom/xdm/Tree"), .int], returnType := none }, accessFlags := 0, code := some k12c0 }
def k12c1 : Code := { maxStack := 2, maxLocals := 3, code := prog_197_method_13_code, exceptionTable := #[], attributes := #[] }
def k12m1 : Method := { name := "equals", desc := "(Ljava/lang/Object;)Z", sig := { parameters := [(.object "java/lang/Object")], returnType := some .boolean }, accessFlags := 1, code := some k12c1 }
/-- com/example/treeloom/treeloom/xdm/Node -/
def k12 : Class := { plain "com/example/treeloom/treeloom/xdm/Node" (some 0) with
  accessFlags := 49
  interfaces := #[11]
  cf := some (fileOf pool12 8 #[] #[{ accessFlags := 0, nameIndex := 5, descriptorIndex := 33, attributes := #[] }, { accessFlags := 1, nameIndex := 179, descriptorIndex := 55, attributes := #[] }] 49 2 #[160] #[{ accessFlags := 25, nameIndex := 158, descriptorIndex := 159, attributes := #[] }, { accessFlags := 18, nameIndex := 11, descriptorIndex := 12, attributes := #[] }, { accessFlags := 18, nameIndex := 15, descriptorIndex := 16, attributes := #[] }])
  fields := #[{ name := "DOCUMENT_ORDER", type := (.object "java/util/Comparator"), accessFlags := 25, slot := 0, constantValue := 0 }, { name := "tree", type := (.object "com/example/treeloom/treeloom/xdm/Tree"), accessFlags := 18, slot := 0, constantValue := 0 }, { name := "index", type := .int, accessFlags := 18, slot := 1, constantValue := 0 }]
  methods := #[k12m0, k12m1]
  instanceTypes := #[(.object "com/example/treeloom/treeloom/xdm/Tree"), .int]
  staticTypes := #[(.object "java/util/Comparator")]
  resolved := Array.replicate 231 none
  statics := none }

def pool13 : Array CpInfo := pool [(1, .methodref 2 3), (0, .class_ 4), (0, .nameAndType 5 6), (0, u "java/lang/Object"), (0, u "<init>"), (0, u "()V"), (1, .class_ 10), (1, u "java/lang/Number"), (2, .class_ 14), (0, u "java/io/Serializable"), (0, u "serialVersionUID"), (0, u "J")] 20

def k13c0 : Code := { maxStack := 1, maxLocals := 1, code := jdk_18_method_1_code, exceptionTable := #[], attributes := #[] }
def k13m0 : Method := { name := "<init>", desc := "()V", sig := { parameters := [], returnType := none }, accessFlags := 1, code := some k13c0 }
/-- java/lang/Number -/
def k13 : Class := { plain "java/lang/Number" (some 0) with
  accessFlags := 1057
  interfaces := #[5]
  cf := some (fileOf pool13 8 #[] #[{ accessFlags := 1, nameIndex := 5, descriptorIndex := 6, attributes := #[] }] 1057 2 #[13] #[{ accessFlags := 26, nameIndex := 15, descriptorIndex := 16, attributes := #[] }])
  fields := #[{ name := "serialVersionUID", type := .long, accessFlags := 26, slot := 0, constantValue := 0 }]
  methods := #[k13m0]
  instanceTypes := #[]
  staticTypes := #[.long]
  resolved := Array.replicate 37 none
  statics := none }

def pool14 : Array CpInfo := pool [(1, .class_ 2), (0, u "java/lang/Integer"), (16, u "digits"), (0, u "[C"), (46, u "<init>"), (17, u "DigitOnes"), (0, u "[B"), (2, u "DigitTens"), (10, .nameAndType 67 101), (0, u "()V"), (85, u "valueOf"), (0, u "(I)Ljava/lang/Integer;"), (0, .class_ 190), (0, u "java/lang/Integer$IntegerCache"), (0, .fieldref 189 192), (0, .nameAndType 193 194), (0, u "high"), (0, u "I"), (0, .fieldref 189 196), (0, .nameAndType 197 198), (0, u "cache"), (0, u "[Ljava/lang/Integer;"), (0, .methodref 1 200), (0, .nameAndType 67 201), (0, u "(I)V"), (0, .methodref 203 100), (0, .class_ 204), (0, u "java/lang/Number"), (0, .fieldref 1 206), (0, .nameAndType 207 194), (0, u "value"), (94, u "TYPE"), (0, u "Ljava/lang/Class;"), (0, .class_ 305), (0, u "java/lang/Comparable"), (0, .class_ 307), (0, u "java/lang/constant/Constable"), (0, .class_ 309), (0, u "java/lang/constant/ConstantDesc"), (0, u "MIN_VALUE"), (1, u "MAX_VALUE"), (3, u "SIZE"), (1, u "BYTES"), (1, u "serialVersionUID"), (0, u "J")] 131

def k14c0 : Code := { maxStack := 3, maxLocals := 1, code := jdk_33_method_22_code, exceptionTable := #[], attributes := #[] }
def k14m0 : Method := { name := "valueOf", desc := "(I)Ljava/lang/Integer;", sig := { parameters := [.int], returnType := some (.object "java/lang/Integer") }, accessFlags := 9, code := some k14c0 }
def k14c1 : Code := { maxStack := 2, maxLocals := 2, code := jdk_33_method_23_code, exceptionTable := #[], attributes := #[] }
def k14m1 : Method := { name := "<init>", desc := "(I)V", sig := { parameters := [.int], returnType := none }, accessFlags := 1, code := some k14c1 }
/-- java/lang/Integer -/
def k14 : Class := { plain "java/lang/Integer" (some 13) with
  accessFlags := 49
  interfaces := #[6, 8, 9]
  cf := some (fileOf pool14 1 #[.nestMembers #[189]] #[{ accessFlags := 9, nameIndex := 187, descriptorIndex := 188, attributes := #[] }, { accessFlags := 1, nameIndex := 67, descriptorIndex := 201, attributes := #[] }] 49 203 #[304, 306, 308] #[{ accessFlags := 25, nameIndex := 310, descriptorIndex := 194, attributes := #[] }, { accessFlags := 25, nameIndex := 312, descriptorIndex := 194, attributes := #[] }, { accessFlags := 25, nameIndex := 302, descriptorIndex := 303, attributes := #[] }, { accessFlags := 24, nameIndex := 19, descriptorIndex := 20, attributes := #[] }, { accessFlags := 24, nameIndex := 89, descriptorIndex := 86, attributes := #[] }, { accessFlags := 24, nameIndex := 85, descriptorIndex := 86, attributes := #[] }, { accessFlags := 18, nameIndex := 207, descriptorIndex := 194, attributes := #[] }, { accessFlags := 25, nameIndex := 316, descriptorIndex := 194, attributes := #[] }, { accessFlags := 25, nameIndex := 318, descriptorIndex := 194, attributes := #[] }, { accessFlags := 26, nameIndex := 320, descriptorIndex := 321, attributes := #[] }])
  fields := #[{ name := "MIN_VALUE", type := .int, accessFlags := 25, slot := 0, constantValue := 0 }, { name := "MAX_VALUE", type := .int, accessFlags := 25, slot := 1, constantValue := 0 }, { name := "TYPE", type := (.object "java/lang/Class"), accessFlags := 25, slot := 2, constantValue := 0 }, { name := "digits", type := (.array .char), accessFlags := 24, slot := 3, constantValue := 0 }, { name := "DigitTens", type := (.array .byte), accessFlags := 24, slot := 4, constantValue := 0 }, { name := "DigitOnes", type := (.array .byte), accessFlags := 24, slot := 5, constantValue := 0 }, { name := "value", type := .int, accessFlags := 18, slot := 0, constantValue := 0 }, { name := "SIZE", type := .int, accessFlags := 25, slot := 6, constantValue := 0 }, { name := "BYTES", type := .int, accessFlags := 25, slot := 7, constantValue := 0 }, { name := "serialVersionUID", type := .long, accessFlags := 26, slot := 8, constantValue := 0 }]
  methods := #[k14m0, k14m1]
  instanceTypes := #[.int]
  staticTypes := #[.int, .int, (.object "java/lang/Class"), (.array .char), (.array .byte), (.array .byte), .int, .int, .long]
  resolved := Array.replicate 453 none
  statics := none }

def pool15 : Array CpInfo := pool [(2, .class_ 4), (1, u "java/lang/Object"), (0, u "<init>"), (0, u "()V"), (0, .class_ 8), (0, u "java/lang/Integer"), (7, .class_ 18), (1, u "java/lang/Integer$IntegerCache"), (0, u "$assertionsDisabled"), (0, u "Z"), (26, u "high"), (0, u "I"), (8, u "archivedCache"), (0, u "[Ljava/lang/Integer;"), (12, u "cache"), (0, u "low")] 27

def k15m0 : Method := { name := "<init>", desc := "()V", sig := { parameters := [], returnType := none }, accessFlags := 2, code := none }
/-- java/lang/Integer$IntegerCache -/
def k15 : Class := { plain "java/lang/Integer$IntegerCache" (some 0) with
  accessFlags := 48
  interfaces := #[]
  cf := some (fileOf pool15 16 #[.nestHost 7] #[{ accessFlags := 2, nameIndex := 5, descriptorIndex := 6, attributes := #[] }] 48 2 #[] #[{ accessFlags := 24, nameIndex := 72, descriptorIndex := 48, attributes := #[] }, { accessFlags := 24, nameIndex := 47, descriptorIndex := 48, attributes := #[] }, { accessFlags := 24, nameIndex := 71, descriptorIndex := 58, attributes := #[] }, { accessFlags := 8, nameIndex := 57, descriptorIndex := 58, attributes := #[] }, { accessFlags := 4120, nameIndex := 19, descriptorIndex := 20, attributes := #[] }])
  fields := #[{ name := "low", type := .int, accessFlags := 24, slot := 0, constantValue := 0 }, { name := "high", type := .int, accessFlags := 24, slot := 1, constantValue := 0 }, { name := "cache", type := (.array (.object "java/lang/Integer")), accessFlags := 24, slot := 2, constantValue := 0 }, { name := "archivedCache", type := (.array (.object "java/lang/Integer")), accessFlags := 8, slot := 3, constantValue := 0 }, { name := "$assertionsDisabled", type := .boolean, accessFlags := 4120, slot := 4, constantValue := 0 }]
  methods := #[k15m0]
  instanceTypes := #[]
  staticTypes := #[.int, .int, (.array (.object "java/lang/Integer")), (.array (.object "java/lang/Integer")), .boolean]
  resolved := Array.replicate 100 none
  statics := some 0 }

def pool16 : Array CpInfo := pool [(1, u "java/lang/Cloneable"), (0, .class_ 1), (0, u "java/lang/Object"), (0, .class_ 3)] 3

/-- java/lang/Cloneable -/
def k16 : Class := { plain "java/lang/Cloneable" (some 0) with
  accessFlags := 1537
  interfaces := #[]
  cf := some (fileOf pool16 2 #[] #[] 1537 4 #[] #[])
  fields := #[]
  methods := #[]
  instanceTypes := #[]
  staticTypes := #[]
  resolved := Array.replicate 8 none
  statics := none }

/-- the primitive byte -/
def k17 : Class := { plain "byte" none with kind := .primitive 'B', accessFlags := 0x411 }
/-- [B -/
def k18 : Class := { plain "[B" (some 0) with kind := .array 17 .byte, interfaces := #[16, 5], accessFlags := 1041 }

/-- the primitive int -/
def k19 : Class := { plain "int" none with kind := .primitive 'I', accessFlags := 0x411 }
/-- [I -/
def k20 : Class := { plain "[I" (some 0) with kind := .array 19 .int, interfaces := #[16, 5], accessFlags := 1041 }

/-- [Lcom/example/treeloom/treeloom/xdm/QName; -/
def k21 : Class := { plain "[Lcom/example/treeloom/treeloom/xdm/QName;" (some 0) with kind := .array 4 (.object "com/example/treeloom/treeloom/xdm/QName"), interfaces := #[16, 5], accessFlags := 1041 }

/-- [Ljava/lang/Integer; -/
def k22 : Class := { plain "[Ljava/lang/Integer;" (some 0) with kind := .array 14 (.object "java/lang/Integer"), interfaces := #[16, 5], accessFlags := 1041 }

/-- [Ljava/lang/String; -/
def k23 : Class := { plain "[Ljava/lang/String;" (some 0) with kind := .array 10 (.object "java/lang/String"), interfaces := #[16, 5], accessFlags := 1041 }

def k24 : Class := plain "com/example/treeloom/treeloom/xdm/NamespaceBinding" (some 0)
def k25 : Class := { plain "[Lcom/example/treeloom/treeloom/xdm/NamespaceBinding;" (some 0) with kind := .array 24 (.object "com/example/treeloom/treeloom/xdm/NamespaceBinding"), interfaces := #[16, 5], accessFlags := 1041 }
def k26 : Class := { plain "[[Lcom/example/treeloom/treeloom/xdm/NamespaceBinding;" (some 0) with kind := .array 25 (.array (.object "com/example/treeloom/treeloom/xdm/NamespaceBinding")), interfaces := #[16, 5], accessFlags := 1041 }
def heap : Heap := #[{ cls := 15, slots := #[.int 0, .int 127, .ref 1, .null, .int 0], vm := .statics 15 },
  { cls := 22, slots := #[.ref 2, .ref 3, .ref 4, .ref 5, .ref 6, .ref 7, .ref 8, .ref 9, .ref 10, .ref 11, .ref 12, .ref 13, .ref 14, .ref 15, .ref 16, .ref 17, .ref 18, .ref 19, .ref 20, .ref 21, .ref 22, .ref 23, .ref 24, .ref 25, .ref 26, .ref 27, .ref 28, .ref 29, .ref 30, .ref 31, .ref 32, .ref 33, .ref 34, .ref 35, .ref 36, .ref 37, .ref 38, .ref 39, .ref 40, .ref 41, .ref 42, .ref 43, .ref 44, .ref 45, .ref 46, .ref 47, .ref 48, .ref 49, .ref 50, .ref 51, .ref 52, .ref 53, .ref 54, .ref 55, .ref 56, .ref 57, .ref 58, .ref 59, .ref 60, .ref 61, .ref 62, .ref 63, .ref 64, .ref 65, .ref 66, .ref 67, .ref 68, .ref 69, .ref 70, .ref 71, .ref 72, .ref 73, .ref 74, .ref 75, .ref 76, .ref 77, .ref 78, .ref 79, .ref 80, .ref 81, .ref 82, .ref 83, .ref 84, .ref 85, .ref 86, .ref 87, .ref 88, .ref 89, .ref 90, .ref 91, .ref 92, .ref 93, .ref 94, .ref 95, .ref 96, .ref 97, .ref 98, .ref 99, .ref 100, .ref 101, .ref 102, .ref 103, .ref 104, .ref 105, .ref 106, .ref 107, .ref 108, .ref 109, .ref 110, .ref 111, .ref 112, .ref 113, .ref 114, .ref 115, .ref 116, .ref 117, .ref 118, .ref 119, .ref 120, .ref 121, .ref 122, .ref 123, .ref 124, .ref 125, .ref 126, .ref 127, .ref 128, .ref 129, .ref 130, .ref 131, .ref 132, .ref 133, .ref 134, .ref 135, .ref 136, .ref 137, .ref 138, .ref 139, .ref 140, .ref 141, .ref 142, .ref 143, .ref 144, .ref 145, .ref 146, .ref 147, .ref 148, .ref 149, .ref 150, .ref 151, .ref 152, .ref 153, .ref 154, .ref 155, .ref 156, .ref 157, .ref 158, .ref 159, .ref 160, .ref 161, .ref 162, .ref 163, .ref 164, .ref 165, .ref 166, .ref 167, .ref 168, .ref 169, .ref 170, .ref 171, .ref 172, .ref 173, .ref 174, .ref 175, .ref 176, .ref 177, .ref 178, .ref 179, .ref 180, .ref 181, .ref 182, .ref 183, .ref 184, .ref 185, .ref 186, .ref 187, .ref 188, .ref 189, .ref 190, .ref 191, .ref 192, .ref 193, .ref 194, .ref 195, .ref 196, .ref 197, .ref 198, .ref 199, .ref 200, .ref 201, .ref 202, .ref 203, .ref 204, .ref 205, .ref 206, .ref 207, .ref 208, .ref 209, .ref 210, .ref 211, .ref 212, .ref 213, .ref 214, .ref 215, .ref 216, .ref 217, .ref 218, .ref 219, .ref 220, .ref 221, .ref 222, .ref 223, .ref 224, .ref 225, .ref 226, .ref 227, .ref 228, .ref 229, .ref 230, .ref 231, .ref 232, .ref 233, .ref 234, .ref 235, .ref 236, .ref 237, .ref 238, .ref 239, .ref 240, .ref 241, .ref 242, .ref 243, .ref 244, .ref 245, .ref 246, .ref 247, .ref 248, .ref 249, .ref 250, .ref 251, .ref 252, .ref 253, .ref 254, .ref 255, .ref 256, .ref 257], vm := .none },
  { cls := 14, slots := #[.int (-128)], vm := .none },
  { cls := 14, slots := #[.int (-127)], vm := .none },
  { cls := 14, slots := #[.int (-126)], vm := .none },
  { cls := 14, slots := #[.int (-125)], vm := .none },
  { cls := 14, slots := #[.int (-124)], vm := .none },
  { cls := 14, slots := #[.int (-123)], vm := .none },
  { cls := 14, slots := #[.int (-122)], vm := .none },
  { cls := 14, slots := #[.int (-121)], vm := .none },
  { cls := 14, slots := #[.int (-120)], vm := .none },
  { cls := 14, slots := #[.int (-119)], vm := .none },
  { cls := 14, slots := #[.int (-118)], vm := .none },
  { cls := 14, slots := #[.int (-117)], vm := .none },
  { cls := 14, slots := #[.int (-116)], vm := .none },
  { cls := 14, slots := #[.int (-115)], vm := .none },
  { cls := 14, slots := #[.int (-114)], vm := .none },
  { cls := 14, slots := #[.int (-113)], vm := .none },
  { cls := 14, slots := #[.int (-112)], vm := .none },
  { cls := 14, slots := #[.int (-111)], vm := .none },
  { cls := 14, slots := #[.int (-110)], vm := .none },
  { cls := 14, slots := #[.int (-109)], vm := .none },
  { cls := 14, slots := #[.int (-108)], vm := .none },
  { cls := 14, slots := #[.int (-107)], vm := .none },
  { cls := 14, slots := #[.int (-106)], vm := .none },
  { cls := 14, slots := #[.int (-105)], vm := .none },
  { cls := 14, slots := #[.int (-104)], vm := .none },
  { cls := 14, slots := #[.int (-103)], vm := .none },
  { cls := 14, slots := #[.int (-102)], vm := .none },
  { cls := 14, slots := #[.int (-101)], vm := .none },
  { cls := 14, slots := #[.int (-100)], vm := .none },
  { cls := 14, slots := #[.int (-99)], vm := .none },
  { cls := 14, slots := #[.int (-98)], vm := .none },
  { cls := 14, slots := #[.int (-97)], vm := .none },
  { cls := 14, slots := #[.int (-96)], vm := .none },
  { cls := 14, slots := #[.int (-95)], vm := .none },
  { cls := 14, slots := #[.int (-94)], vm := .none },
  { cls := 14, slots := #[.int (-93)], vm := .none },
  { cls := 14, slots := #[.int (-92)], vm := .none },
  { cls := 14, slots := #[.int (-91)], vm := .none },
  { cls := 14, slots := #[.int (-90)], vm := .none },
  { cls := 14, slots := #[.int (-89)], vm := .none },
  { cls := 14, slots := #[.int (-88)], vm := .none },
  { cls := 14, slots := #[.int (-87)], vm := .none },
  { cls := 14, slots := #[.int (-86)], vm := .none },
  { cls := 14, slots := #[.int (-85)], vm := .none },
  { cls := 14, slots := #[.int (-84)], vm := .none },
  { cls := 14, slots := #[.int (-83)], vm := .none },
  { cls := 14, slots := #[.int (-82)], vm := .none },
  { cls := 14, slots := #[.int (-81)], vm := .none },
  { cls := 14, slots := #[.int (-80)], vm := .none },
  { cls := 14, slots := #[.int (-79)], vm := .none },
  { cls := 14, slots := #[.int (-78)], vm := .none },
  { cls := 14, slots := #[.int (-77)], vm := .none },
  { cls := 14, slots := #[.int (-76)], vm := .none },
  { cls := 14, slots := #[.int (-75)], vm := .none },
  { cls := 14, slots := #[.int (-74)], vm := .none },
  { cls := 14, slots := #[.int (-73)], vm := .none },
  { cls := 14, slots := #[.int (-72)], vm := .none },
  { cls := 14, slots := #[.int (-71)], vm := .none },
  { cls := 14, slots := #[.int (-70)], vm := .none },
  { cls := 14, slots := #[.int (-69)], vm := .none },
  { cls := 14, slots := #[.int (-68)], vm := .none },
  { cls := 14, slots := #[.int (-67)], vm := .none },
  { cls := 14, slots := #[.int (-66)], vm := .none },
  { cls := 14, slots := #[.int (-65)], vm := .none },
  { cls := 14, slots := #[.int (-64)], vm := .none },
  { cls := 14, slots := #[.int (-63)], vm := .none },
  { cls := 14, slots := #[.int (-62)], vm := .none },
  { cls := 14, slots := #[.int (-61)], vm := .none },
  { cls := 14, slots := #[.int (-60)], vm := .none },
  { cls := 14, slots := #[.int (-59)], vm := .none },
  { cls := 14, slots := #[.int (-58)], vm := .none },
  { cls := 14, slots := #[.int (-57)], vm := .none },
  { cls := 14, slots := #[.int (-56)], vm := .none },
  { cls := 14, slots := #[.int (-55)], vm := .none },
  { cls := 14, slots := #[.int (-54)], vm := .none },
  { cls := 14, slots := #[.int (-53)], vm := .none },
  { cls := 14, slots := #[.int (-52)], vm := .none },
  { cls := 14, slots := #[.int (-51)], vm := .none },
  { cls := 14, slots := #[.int (-50)], vm := .none },
  { cls := 14, slots := #[.int (-49)], vm := .none },
  { cls := 14, slots := #[.int (-48)], vm := .none },
  { cls := 14, slots := #[.int (-47)], vm := .none },
  { cls := 14, slots := #[.int (-46)], vm := .none },
  { cls := 14, slots := #[.int (-45)], vm := .none },
  { cls := 14, slots := #[.int (-44)], vm := .none },
  { cls := 14, slots := #[.int (-43)], vm := .none },
  { cls := 14, slots := #[.int (-42)], vm := .none },
  { cls := 14, slots := #[.int (-41)], vm := .none },
  { cls := 14, slots := #[.int (-40)], vm := .none },
  { cls := 14, slots := #[.int (-39)], vm := .none },
  { cls := 14, slots := #[.int (-38)], vm := .none },
  { cls := 14, slots := #[.int (-37)], vm := .none },
  { cls := 14, slots := #[.int (-36)], vm := .none },
  { cls := 14, slots := #[.int (-35)], vm := .none },
  { cls := 14, slots := #[.int (-34)], vm := .none },
  { cls := 14, slots := #[.int (-33)], vm := .none },
  { cls := 14, slots := #[.int (-32)], vm := .none },
  { cls := 14, slots := #[.int (-31)], vm := .none },
  { cls := 14, slots := #[.int (-30)], vm := .none },
  { cls := 14, slots := #[.int (-29)], vm := .none },
  { cls := 14, slots := #[.int (-28)], vm := .none },
  { cls := 14, slots := #[.int (-27)], vm := .none },
  { cls := 14, slots := #[.int (-26)], vm := .none },
  { cls := 14, slots := #[.int (-25)], vm := .none },
  { cls := 14, slots := #[.int (-24)], vm := .none },
  { cls := 14, slots := #[.int (-23)], vm := .none },
  { cls := 14, slots := #[.int (-22)], vm := .none },
  { cls := 14, slots := #[.int (-21)], vm := .none },
  { cls := 14, slots := #[.int (-20)], vm := .none },
  { cls := 14, slots := #[.int (-19)], vm := .none },
  { cls := 14, slots := #[.int (-18)], vm := .none },
  { cls := 14, slots := #[.int (-17)], vm := .none },
  { cls := 14, slots := #[.int (-16)], vm := .none },
  { cls := 14, slots := #[.int (-15)], vm := .none },
  { cls := 14, slots := #[.int (-14)], vm := .none },
  { cls := 14, slots := #[.int (-13)], vm := .none },
  { cls := 14, slots := #[.int (-12)], vm := .none },
  { cls := 14, slots := #[.int (-11)], vm := .none },
  { cls := 14, slots := #[.int (-10)], vm := .none },
  { cls := 14, slots := #[.int (-9)], vm := .none },
  { cls := 14, slots := #[.int (-8)], vm := .none },
  { cls := 14, slots := #[.int (-7)], vm := .none },
  { cls := 14, slots := #[.int (-6)], vm := .none },
  { cls := 14, slots := #[.int (-5)], vm := .none },
  { cls := 14, slots := #[.int (-4)], vm := .none },
  { cls := 14, slots := #[.int (-3)], vm := .none },
  { cls := 14, slots := #[.int (-2)], vm := .none },
  { cls := 14, slots := #[.int (-1)], vm := .none },
  { cls := 14, slots := #[.int 0], vm := .none },
  { cls := 14, slots := #[.int 1], vm := .none },
  { cls := 14, slots := #[.int 2], vm := .none },
  { cls := 14, slots := #[.int 3], vm := .none },
  { cls := 14, slots := #[.int 4], vm := .none },
  { cls := 14, slots := #[.int 5], vm := .none },
  { cls := 14, slots := #[.int 6], vm := .none },
  { cls := 14, slots := #[.int 7], vm := .none },
  { cls := 14, slots := #[.int 8], vm := .none },
  { cls := 14, slots := #[.int 9], vm := .none },
  { cls := 14, slots := #[.int 10], vm := .none },
  { cls := 14, slots := #[.int 11], vm := .none },
  { cls := 14, slots := #[.int 12], vm := .none },
  { cls := 14, slots := #[.int 13], vm := .none },
  { cls := 14, slots := #[.int 14], vm := .none },
  { cls := 14, slots := #[.int 15], vm := .none },
  { cls := 14, slots := #[.int 16], vm := .none },
  { cls := 14, slots := #[.int 17], vm := .none },
  { cls := 14, slots := #[.int 18], vm := .none },
  { cls := 14, slots := #[.int 19], vm := .none },
  { cls := 14, slots := #[.int 20], vm := .none },
  { cls := 14, slots := #[.int 21], vm := .none },
  { cls := 14, slots := #[.int 22], vm := .none },
  { cls := 14, slots := #[.int 23], vm := .none },
  { cls := 14, slots := #[.int 24], vm := .none },
  { cls := 14, slots := #[.int 25], vm := .none },
  { cls := 14, slots := #[.int 26], vm := .none },
  { cls := 14, slots := #[.int 27], vm := .none },
  { cls := 14, slots := #[.int 28], vm := .none },
  { cls := 14, slots := #[.int 29], vm := .none },
  { cls := 14, slots := #[.int 30], vm := .none },
  { cls := 14, slots := #[.int 31], vm := .none },
  { cls := 14, slots := #[.int 32], vm := .none },
  { cls := 14, slots := #[.int 33], vm := .none },
  { cls := 14, slots := #[.int 34], vm := .none },
  { cls := 14, slots := #[.int 35], vm := .none },
  { cls := 14, slots := #[.int 36], vm := .none },
  { cls := 14, slots := #[.int 37], vm := .none },
  { cls := 14, slots := #[.int 38], vm := .none },
  { cls := 14, slots := #[.int 39], vm := .none },
  { cls := 14, slots := #[.int 40], vm := .none },
  { cls := 14, slots := #[.int 41], vm := .none },
  { cls := 14, slots := #[.int 42], vm := .none },
  { cls := 14, slots := #[.int 43], vm := .none },
  { cls := 14, slots := #[.int 44], vm := .none },
  { cls := 14, slots := #[.int 45], vm := .none },
  { cls := 14, slots := #[.int 46], vm := .none },
  { cls := 14, slots := #[.int 47], vm := .none },
  { cls := 14, slots := #[.int 48], vm := .none },
  { cls := 14, slots := #[.int 49], vm := .none },
  { cls := 14, slots := #[.int 50], vm := .none },
  { cls := 14, slots := #[.int 51], vm := .none },
  { cls := 14, slots := #[.int 52], vm := .none },
  { cls := 14, slots := #[.int 53], vm := .none },
  { cls := 14, slots := #[.int 54], vm := .none },
  { cls := 14, slots := #[.int 55], vm := .none },
  { cls := 14, slots := #[.int 56], vm := .none },
  { cls := 14, slots := #[.int 57], vm := .none },
  { cls := 14, slots := #[.int 58], vm := .none },
  { cls := 14, slots := #[.int 59], vm := .none },
  { cls := 14, slots := #[.int 60], vm := .none },
  { cls := 14, slots := #[.int 61], vm := .none },
  { cls := 14, slots := #[.int 62], vm := .none },
  { cls := 14, slots := #[.int 63], vm := .none },
  { cls := 14, slots := #[.int 64], vm := .none },
  { cls := 14, slots := #[.int 65], vm := .none },
  { cls := 14, slots := #[.int 66], vm := .none },
  { cls := 14, slots := #[.int 67], vm := .none },
  { cls := 14, slots := #[.int 68], vm := .none },
  { cls := 14, slots := #[.int 69], vm := .none },
  { cls := 14, slots := #[.int 70], vm := .none },
  { cls := 14, slots := #[.int 71], vm := .none },
  { cls := 14, slots := #[.int 72], vm := .none },
  { cls := 14, slots := #[.int 73], vm := .none },
  { cls := 14, slots := #[.int 74], vm := .none },
  { cls := 14, slots := #[.int 75], vm := .none },
  { cls := 14, slots := #[.int 76], vm := .none },
  { cls := 14, slots := #[.int 77], vm := .none },
  { cls := 14, slots := #[.int 78], vm := .none },
  { cls := 14, slots := #[.int 79], vm := .none },
  { cls := 14, slots := #[.int 80], vm := .none },
  { cls := 14, slots := #[.int 81], vm := .none },
  { cls := 14, slots := #[.int 82], vm := .none },
  { cls := 14, slots := #[.int 83], vm := .none },
  { cls := 14, slots := #[.int 84], vm := .none },
  { cls := 14, slots := #[.int 85], vm := .none },
  { cls := 14, slots := #[.int 86], vm := .none },
  { cls := 14, slots := #[.int 87], vm := .none },
  { cls := 14, slots := #[.int 88], vm := .none },
  { cls := 14, slots := #[.int 89], vm := .none },
  { cls := 14, slots := #[.int 90], vm := .none },
  { cls := 14, slots := #[.int 91], vm := .none },
  { cls := 14, slots := #[.int 92], vm := .none },
  { cls := 14, slots := #[.int 93], vm := .none },
  { cls := 14, slots := #[.int 94], vm := .none },
  { cls := 14, slots := #[.int 95], vm := .none },
  { cls := 14, slots := #[.int 96], vm := .none },
  { cls := 14, slots := #[.int 97], vm := .none },
  { cls := 14, slots := #[.int 98], vm := .none },
  { cls := 14, slots := #[.int 99], vm := .none },
  { cls := 14, slots := #[.int 100], vm := .none },
  { cls := 14, slots := #[.int 101], vm := .none },
  { cls := 14, slots := #[.int 102], vm := .none },
  { cls := 14, slots := #[.int 103], vm := .none },
  { cls := 14, slots := #[.int 104], vm := .none },
  { cls := 14, slots := #[.int 105], vm := .none },
  { cls := 14, slots := #[.int 106], vm := .none },
  { cls := 14, slots := #[.int 107], vm := .none },
  { cls := 14, slots := #[.int 108], vm := .none },
  { cls := 14, slots := #[.int 109], vm := .none },
  { cls := 14, slots := #[.int 110], vm := .none },
  { cls := 14, slots := #[.int 111], vm := .none },
  { cls := 14, slots := #[.int 112], vm := .none },
  { cls := 14, slots := #[.int 113], vm := .none },
  { cls := 14, slots := #[.int 114], vm := .none },
  { cls := 14, slots := #[.int 115], vm := .none },
  { cls := 14, slots := #[.int 116], vm := .none },
  { cls := 14, slots := #[.int 117], vm := .none },
  { cls := 14, slots := #[.int 118], vm := .none },
  { cls := 14, slots := #[.int 119], vm := .none },
  { cls := 14, slots := #[.int 120], vm := .none },
  { cls := 14, slots := #[.int 121], vm := .none },
  { cls := 14, slots := #[.int 122], vm := .none },
  { cls := 14, slots := #[.int 123], vm := .none },
  { cls := 14, slots := #[.int 124], vm := .none },
  { cls := 14, slots := #[.int 125], vm := .none },
  { cls := 14, slots := #[.int 126], vm := .none },
  { cls := 14, slots := #[.int 127], vm := .none }]
def classes : Array Class := #[k0, k1, k2, k3, k4, k5, k6, k7, k8, k9, k10, k11, k12, k13, k14, k15, k16, k17, k18, k19, k20, k21, k22, k23, k24, k25, k26]
def interned : List (Array UInt16 × Addr) := []
def slotsUsed : Nat := 517
def theMethod : MethodId := ⟨1, 1⟩
def args0 : Array Value := #[.long 5, .long 6, .int 7, .int 8, .int 8]
def aboutOver (below : List Frame) : State where
  vm := { classes := classes, interned := interned.toArray }
  heap := heap
  slotsUsed := slotsUsed
  threads := #[{ frames := .invoking theMethod args0 :: below }]
def below0 : List Frame := [.native { method := ⟨0, 0⟩, args := #[] }]
def about1 : State := aboutOver below0
def p0 : Program := .bare "" "" ""
def e0 : Env := launch0.env 0 0 0
theorem w_frames : about1.frames = Frame.invoking theMethod args0 :: below0 := rfl
set_option maxRecDepth 65536 in
theorem w_args : argsFit about1.vm theMethod args0 = true := by decide +kernel
set_option maxRecDepth 65536 in
theorem w_heap : heapFits about1 = true := by decide +kernel
set_option maxRecDepth 65536 in
theorem w_runnable : about1.curStatus? = some .runnable := by decide +kernel
set_option maxRecDepth 65536 in
theorem w_alone : about1.alone = true := by decide +kernel
set_option maxRecDepth 65536 in
theorem w_named : about1.methodNamed? x = some theMethod := by decide +kernel
set_option maxRecDepth 65536 in
theorem w_hears : about1.hears theMethod below0 = true := by decide +kernel
set_option maxRecDepth 65536 in
theorem w_ripe : about1.ripe theMethod args0 below0 = true := by decide +kernel
theorem w_running : about1.status = .running := rfl
set_option maxRecDepth 65536 in
theorem w_room : about1.hasRoom e0.platform room_1 = true :=
  launch0.hasRoom_least _ room_1 (by decide +kernel) (by decide +kernel) (by decide +kernel) (by decide +kernel) (by decide +kernel) (by decide +kernel)
theorem allAtoms_all (ts : List Jvm.Cond) (a : Array Jvm.Value) (st : Jvm.State) : (allAtoms ts).before a st = ts.all (fun c => c.before a st) := by
  induction ts with
  | nil => rfl
  | cons c t ih =>
    show (Jvm.Cond.and c (allAtoms t)).before a st = _
    rw [Jvm.Cond.before_and, ih, List.all_cons]
def words1 : List Jvm.Cond := Jvm.Cond.code x code maxLocals ret :: tables_1
/-- a 'code' word, met by the world's own term for the bytes: nothing is compared byte by byte -/
theorem code_word {y : MethodName} {bytes : ByteArray} {mx : Nat} {rt : Option FieldType} {a : Array Value} {s : State} {m : MethodId} {meth : Method} {c : Code} (h1 : s.methodNamed? y = some m) (h2 : s.vm.method? m = some meth) (h3 : meth.code = some c) (h4 : c.code = bytes)
    (h5 : (c.maxLocals == mx && c.exceptionTable.isEmpty && decide (c.maxStack ≤ mostOperands) && decide (meth.sig.returnType = rt) && !meth.locks && decide (parseMethodDescriptor y.desc = some meth.sig)) = true) : (Jvm.Cond.code y bytes mx rt).before a s = true := by
  simp only [Bool.and_eq_true, beq_iff_eq, Bool.not_eq_true', decide_eq_true_eq] at h5
  obtain ⟨⟨⟨⟨⟨g1, g2⟩, g3⟩, g4⟩, g5⟩, g6⟩ := h5
  simp [Cond.before, Cond.holds, Cond.value, h1, h2, h3, h4, g1, g2, g3, g4, g5, g6]
def isCode : Jvm.Cond → Bool
  | .code _ _ _ _ => true
  | _ => false
theorem all_split {L : List Jvm.Cond} {P : Jvm.Cond → Bool} (h1 : L.all (fun c => isCode c || P c) = true) (h2 : ∀ c ∈ L.filter isCode, P c = true) : L.all P = true := by
  refine List.all_eq_true.mpr fun c hc => ?_
  have h := List.all_eq_true.mp h1 c hc
  rcases Bool.eq_false_or_eq_true (isCode c) with hi | hi
  · exact h2 c (List.mem_filter.mpr ⟨hc, hi⟩)
  · simpa [hi] using h
set_option maxRecDepth 65536 in
theorem w_c0 : (Jvm.Cond.code x code maxLocals ret).before args0 about1 = true := code_word (m := ⟨1, 1⟩) (meth := k1m1) (c := k1c1) (by decide +kernel) rfl rfl rfl (by decide +kernel)
set_option maxRecDepth 65536 in
theorem w_c1 : (Jvm.Cond.code ({ cls := "com/example/treeloom/treeloom/xdm/Tree", name := "<init>", desc := "(JJ)V" } : Jvm.MethodName) prog_211_method_1_code (5 : Nat) (Option.none : Option Jvm.ClassFile.FieldType)).before args0 about1 = true := code_word (m := ⟨2, 0⟩) (meth := k2m0) (c := k2c0) (by decide +kernel) rfl rfl rfl (by decide +kernel)
set_option maxRecDepth 65536 in
theorem w_c2 : (Jvm.Cond.code ({ cls := "java/lang/Object", name := "<init>", desc := "()V" } : Jvm.MethodName) object_method_1_code (1 : Nat) (Option.none : Option Jvm.ClassFile.FieldType)).before args0 about1 = true := code_word (m := ⟨0, 0⟩) (meth := k0m0) (c := k0c0) (by decide +kernel) rfl rfl rfl (by decide +kernel)
set_option maxRecDepth 65536 in
theorem w_c3 : (Jvm.Cond.code ({ cls := "com/example/treeloom/treeloom/xdm/Node", name := "<init>", desc := "(Lcom/example/treeloom/treeloom/xdm/Tree;I)V" } : Jvm.MethodName) prog_197_method_1_code (3 : Nat) (Option.none : Option Jvm.ClassFile.FieldType)).before args0 about1 = true := code_word (m := ⟨12, 0⟩) (meth := k12m0) (c := k12c0) (by decide +kernel) rfl rfl rfl (by decide +kernel)
set_option maxRecDepth 65536 in
theorem w_c4 : (Jvm.Cond.code ({ cls := "com/example/treeloom/treeloom/xdm/Node", name := "equals", desc := "(Ljava/lang/Object;)Z" } : Jvm.MethodName) prog_197_method_13_code (3 : Nat) (Option.some Jvm.ClassFile.FieldType.boolean)).before args0 about1 = true := code_word (m := ⟨12, 1⟩) (meth := k12m1) (c := k12c1) (by decide +kernel) rfl rfl rfl (by decide +kernel)
set_option maxRecDepth 65536 in
theorem w_c5 : (Jvm.Cond.code ({ cls := "java/lang/Integer", name := "valueOf", desc := "(I)Ljava/lang/Integer;" } : Jvm.MethodName) jdk_33_method_22_code (1 : Nat) (Option.some (Jvm.ClassFile.FieldType.object "java/lang/Integer"))).before args0 about1 = true := code_word (m := ⟨14, 0⟩) (meth := k14m0) (c := k14c0) (by decide +kernel) rfl rfl rfl (by decide +kernel)
set_option maxRecDepth 65536 in
theorem w_c6 : (Jvm.Cond.code ({ cls := "java/lang/Integer", name := "<init>", desc := "(I)V" } : Jvm.MethodName) jdk_33_method_23_code (2 : Nat) (Option.none : Option Jvm.ClassFile.FieldType)).before args0 about1 = true := code_word (m := ⟨14, 1⟩) (meth := k14m1) (c := k14c1) (by decide +kernel) rfl rfl rfl (by decide +kernel)
set_option maxRecDepth 65536 in
theorem w_c7 : (Jvm.Cond.code ({ cls := "java/lang/Number", name := "<init>", desc := "()V" } : Jvm.MethodName) jdk_18_method_1_code (1 : Nat) (Option.none : Option Jvm.ClassFile.FieldType)).before args0 about1 = true := code_word (m := ⟨13, 0⟩) (meth := k13m0) (c := k13c0) (by decide +kernel) rfl rfl rfl (by decide +kernel)
def codes1 : List Jvm.Cond := [Jvm.Cond.code x code maxLocals ret, Jvm.Cond.code ({ cls := "com/example/treeloom/treeloom/xdm/Tree", name := "<init>", desc := "(JJ)V" } : Jvm.MethodName) prog_211_method_1_code (5 : Nat) (Option.none : Option Jvm.ClassFile.FieldType), Jvm.Cond.code ({ cls := "java/lang/Object", name := "<init>", desc := "()V" } : Jvm.MethodName) object_method_1_code (1 : Nat) (Option.none : Option Jvm.ClassFile.FieldType), Jvm.Cond.code ({ cls := "com/example/treeloom/treeloom/xdm/Node", name := "<init>", desc := "(Lcom/example/treeloom/treeloom/xdm/Tree;I)V" } : Jvm.MethodName) prog_197_method_1_code (3 : Nat) (Option.none : Option Jvm.ClassFile.FieldType), Jvm.Cond.code ({ cls := "com/example/treeloom/treeloom/xdm/Node", name := "equals", desc := "(Ljava/lang/Object;)Z" } : Jvm.MethodName) prog_197_method_13_code (3 : Nat) (Option.some Jvm.ClassFile.FieldType.boolean), Jvm.Cond.code ({ cls := "java/lang/Integer", name := "valueOf", desc := "(I)Ljava/lang/Integer;" } : Jvm.MethodName) jdk_33_method_22_code (1 : Nat) (Option.some (Jvm.ClassFile.FieldType.object "java/lang/Integer")), Jvm.Cond.code ({ cls := "java/lang/Integer", name := "<init>", desc := "(I)V" } : Jvm.MethodName) jdk_33_method_23_code (2 : Nat) (Option.none : Option Jvm.ClassFile.FieldType), Jvm.Cond.code ({ cls := "java/lang/Number", name := "<init>", desc := "()V" } : Jvm.MethodName) jdk_18_method_1_code (1 : Nat) (Option.none : Option Jvm.ClassFile.FieldType)]
set_option maxRecDepth 65536 in
theorem codes_eq : words1.filter isCode = codes1 := rfl
theorem w_codes : ∀ c ∈ words1.filter isCode, c.before args0 about1 = true := by
  rw [codes_eq]
  intro c hc
  simp only [codes1, List.mem_cons, List.not_mem_nil, or_false] at hc
  rcases hc with rfl | rfl | rfl | rfl | rfl | rfl | rfl | rfl
  · exact w_c0
  · exact w_c1
  · exact w_c2
  · exact w_c3
  · exact w_c4
  · exact w_c5
  · exact w_c6
  · exact w_c7
set_option maxRecDepth 65536 in
theorem w_t1 : (words1.take 24).all (fun c => isCode c || c.before args0 about1) = true := by decide +kernel
set_option maxRecDepth 65536 in
theorem w_t2 : ((words1.drop 24).take 24).all (fun c => isCode c || c.before args0 about1) = true := by decide +kernel
set_option maxRecDepth 65536 in
theorem w_t3 : (((words1.drop 24).drop 24).take 24).all (fun c => isCode c || c.before args0 about1) = true := by decide +kernel
set_option maxRecDepth 65536 in
theorem w_t4 : (((words1.drop 24).drop 24).drop 24).all (fun c => isCode c || c.before args0 about1) = true := by decide +kernel
theorem w_tables : (allAtoms (Jvm.Cond.code x code maxLocals ret :: tables_1)).before args0 about1 = true := by
  rw [allAtoms_all]
  show words1.all (fun c => c.before args0 about1) = true
  refine all_split ?_ w_codes
  rw [← List.take_append_drop 24 words1, List.all_append, w_t1, ← List.take_append_drop 24 (words1.drop 24), List.all_append, w_t2, ← List.take_append_drop 24 ((words1.drop 24).drop 24), List.all_append, w_t3, w_t4]
  rfl
set_option maxRecDepth 65536 in
theorem w_rest : rest_1_c.before args0 about1 = true := by decide +kernel
set_option maxRecDepth 65536 in
theorem w_case : (Jvm.Cond.and given_1 narrow_1).before args0 about1 = true := by decide +kernel
theorem w_applies : (headSpec (Jvm.Cond.code x code maxLocals ret :: tables_1) room_1).applies x e0.platform about1 = true :=
  (Spec.applies_iff w_frames).mpr ⟨w_running, w_runnable, w_alone, w_named, w_hears, w_ripe, w_room, w_tables⟩
theorem atStart : AtStart classFile x code maxLocals ret World_1 tables_1 room_1 Calls_1 rest_1 Pre_1 launch0 p0 e0 about1 theMethod args0 below0 :=
  ⟨lists_1, trivial, launch0.admits_env _ _ _, launch0.least_env, fairChoices_fair.cas, fairChoices_fair.clock, w_frames, w_args, w_heap, w_applies, trivial, w_rest, w_case⟩
end start1
theorem witness_1 : WitnessClaimed_1 := ⟨start1.p0, start1.e0, start1.about1, start1.theMethod, start1.args0, start1.below0, start1.atStart⟩
end Jvm.Pilot.@@N@@
