import JvmDerived
import JvmDerived.Pilot.@@N@@Statement
import JvmDerived.Pilot.@@N@@Code
set_option linter.unusedVariables false
set_option linter.unusedSimpArgs false
namespace Jvm.RoadKit
open Sem ClassFile Op Lib Jvm.Stand Jvm.Free Jvm.LawKit
section New
variable {p : Program} {l : Launch} {e : Env} {R : Room} {s : State} {m : MethodId} {args : Array Value} {below : List Frame} {meth : Method} {c : Code} {T : State} {locs : List Loc} {cells slots : Nat}
theorem retI (X : Stand p l e R s m args below meth c T locs cells slots) (hx : p.tables.exec = Jvm.exec) {pc : Nat} {Ls : Array Slot} {z : Int32} {rest : List Value} (hret : meth.sig.returnType = some .int) (hd : decode c.code pc = .ok (.ireturn, 1)) {fs : List Frame}
    (hl : ∀ (f : JFrame) (acts : List Action), f.method = m → f.locked = none → f.entered = [] → (doReturn e (T.setTop f) acts (some (.int z))).1 = T.setFrames fs) : Steps p.tables e below (T.setTop (mkF m pc Ls (.int z :: rest))) (T.setFrames fs) := by
  have hm' : T.vm.method? m = some meth := X.method'
  have hn : narrow .int (.int z) = .int z := rfl
  show Steps p.tables e below (T.setTop { method := m, pc := pc, locals := Ls, stack := _ :: rest, locked := none }) _
  jvm_step X.here [X.here.top, hx, hd, hm', hret, hn]
  first | (intro acts; rw [hl _ acts rfl rfl rfl]) | rw [hl _ _ rfl rfl rfl]
  exact Steps.refl _
end New
section Own
variable {p : Program} {l : Launch} {e : Env} {R : Room} {s : State} {m : MethodId} {args : Array Value} {below : List Frame} {meth : Method} {c : Code} {T A B : State} {locs : List Loc} {cells slots k n : Nat} {Q : Option Value → Heap → List Loc → Prop}
/-- from A the walk comes to its end, and Q holds there -/
def own_Go (p : Program) (e : Env) (below : List Frame) (s : State) (Q : Option Value → Heap → List Loc → Prop) (k n : Nat) (A : State) : Prop :=
  ∃ s₂ o, Steps p.tables e below A s₂ ∧ s₂.status = .running ∧ Ended s₂ below o ∧ ∃ v L, o = .returned v ∧ Q v s₂.heap L ∧ FrameEnd s o s₂ L k n
theorem own_st (h : ∀ t, Steps p.tables e below B t → Steps p.tables e below A t) (g : own_Go p e below s Q k n B) : own_Go p e below s Q k n A := by
  obtain ⟨s₂, o, h1, r⟩ := g
  exact ⟨s₂, o, h _ h1, r⟩
theorem own_tr (h : Steps p.tables e below A B) (g : own_Go p e below s Q k n B) : own_Go p e below s Q k n A := own_st (fun _ q => h.trans q) g
theorem own_end (X : Stand p l e R s m args below meth c T locs cells slots) (hlk : meth.locks = false) {v : Option Value} (hv : meth.sig.returnType = none → v = none) (hk : cells ≤ k) (hn : slots ≤ n) (hQ : Q v T.heap locs) {g : JFrame}
    (hgo : ∀ fs, (∀ (f : JFrame) (acts : List Action), f.method = m → f.locked = none → f.entered = [] → (doReturn e (T.setTop f) acts v).1 = T.setFrames fs) → Steps p.tables e below (T.setTop g) (T.setFrames fs)) : own_Go p e below s Q k n (T.setTop g) := by
  obtain ⟨fs, hr, hrun, hended, hW, hsame⟩ := X.leave hv hlk
  exact ⟨_, _, hgo fs hr, hrun, hended, v, locs, rfl, hQ, ⟨_, rfl⟩, hW, hsame.mono hk hn⟩
theorem own_retI (X : Stand p l e R s m args below meth c T locs cells slots) (hx : p.tables.exec = Jvm.exec) (hlk : meth.locks = false) {pc : Nat} {Ls : Array Slot} {z : Int32} {rest : List Value} (hret : meth.sig.returnType = some .int) (hd : decode c.code pc = .ok (.ireturn, 1)) (hk : cells ≤ k) (hn : slots ≤ n) (hQ : Q (some (.int z)) T.heap locs) :
    own_Go p e below s Q k n (T.setTop (mkF m pc Ls (.int z :: rest))) := own_end X hlk (fun h => by rw [hret] at h; cases h) hk hn hQ fun fs hr => retI X hx hret hd hr
theorem own_retN (X : Stand p l e R s m args below meth c T locs cells slots) (hx : p.tables.exec = Jvm.exec) (hlk : meth.locks = false) {pc : Nat} {Ls : Array Slot} {z z' : Int32} {rest : List Value} {t : FieldType} (hret : meth.sig.returnType = some t) (ht : t = .boolean ∨ t = .byte ∨ t = .char ∨ t = .short) (hz : nar t z = z') (hd : decode c.code pc = .ok (.ireturn, 1)) (hk : cells ≤ k) (hn : slots ≤ n) (hQ : Q (some (.int z')) T.heap locs) :
    own_Go p e below s Q k n (T.setTop (mkF m pc Ls (.int z :: rest))) := own_end X hlk (v := some (.int (nar t z))) (fun h => by rw [hret] at h; cases h) hk hn (hz ▸ hQ) fun fs hr => retN X hx hret ht hd hr
theorem own_retJ (X : Stand p l e R s m args below meth c T locs cells slots) (hx : p.tables.exec = Jvm.exec) (hlk : meth.locks = false) {pc : Nat} {Ls : Array Slot} {z : Int64} {rest : List Value} (hret : meth.sig.returnType = some .long) (hd : decode c.code pc = .ok (.lreturn, 1)) (hk : cells ≤ k) (hn : slots ≤ n) (hQ : Q (some (.long z)) T.heap locs) :
    own_Go p e below s Q k n (T.setTop (mkF m pc Ls (.long z :: rest))) := own_end X hlk (fun h => by rw [hret] at h; cases h) hk hn hQ fun fs hr => retOut X hx hret rfl (Or.inr (Or.inl ⟨rfl, rfl, _, rfl⟩)) hd hr
theorem own_retA (X : Stand p l e R s m args below meth c T locs cells slots) (hx : p.tables.exec = Jvm.exec) (hlk : meth.locks = false) {pc : Nat} {Ls : Array Slot} {w : Value} {t : FieldType} {rest : List Value} (hret : meth.sig.returnType = some t) (hw : w.isRef = true) (hd : decode c.code pc = .ok (.areturn, 1)) (hk : cells ≤ k) (hn : slots ≤ n) (hQ : Q (some w) T.heap locs) (ht : t.isReference = true := by rfl) :
    own_Go p e below s Q k n (T.setTop (mkF m pc Ls (w :: rest))) := own_end X hlk (fun h => by rw [hret] at h; cases h) hk hn hQ fun fs hr => retOut X hx hret (by cases w <;> first | (cases hw; done) | (cases t <;> first | (cases ht; done) | rfl)) (Or.inr (Or.inr (Or.inr (Or.inr ⟨rfl, ht, hw⟩)))) hd hr
theorem own_ret0 (X : Stand p l e R s m args below meth c T locs cells slots) (hx : p.tables.exec = Jvm.exec) (hlk : meth.locks = false) {pc : Nat} {Ls : Array Slot} (hret : meth.sig.returnType = none) (hd : decode c.code pc = .ok (.return_, 1)) (hk : cells ≤ k) (hn : slots ≤ n) (hQ : Q none T.heap locs) :
    own_Go p e below s Q k n (T.setTop (mkF m pc Ls [])) := own_end X hlk (fun _ => rfl) hk hn hQ fun fs hr => X.returnOut hx hret hd hr
end Own
theorem own_narR {C : String} {v : Value} (h : v.isRef = true) : narrow (.object C) v = v := by cases v <;> first | rfl | (cases h; done)
theorem own_fitR {C : String} {v : Value} (h : v.isRef = true) : fits (.object C) v = true := by cases v <;> first | rfl | (cases h; done)
theorem own_pad (n : Nat) (d : Value) (i : Nat) : (List.replicate n d).getD i d = ([] : List Value).getD i d := by
  have h := pad_rep [] d n i
  simpa using h
end Jvm.RoadKit
namespace Jvm.Pilot.@@N@@
open Jvm Jvm.ClassFile Sem Op Lib Jvm.Free Jvm.Stand Jvm.LawKit Jvm.RoadKit Bundle Jvm.Pilot.@@N@@.Jvm.D
theorem own_eqV {args : Array Value} {first s : State} {o : Option Outcome} {idx : List Nat} {t u : Term} {w : Value} (h : (Cond.eq t u).value args first o s idx = some true) (hu : u.eval args first o idx s = some w) : t.eval args first o idx s = some w := by
  simp only [Cond.value, hu] at h
  cases ht : t.eval args first o idx s with
  | none => simp [ht] at h
  | some v => cases v <;> cases w <;> simp_all

def own_BoxI (Z : State) (aC : Addr) : Prop := ∃ cl : Cell, Arr Z Z.heap aC cl (.object "java/lang/Integer") ∧ cl.slots.size = 256 ∧ ∀ j : Int32, ¬ (j < 0 ∨ 256 ≤ j.toNatClampNeg) → ∃ r, cl.slots[j.toNatClampNeg]? = some (.ref r) ∧ Exa Z Z.heap r "java/lang/Integer" ∧ Fld Z Z.heap r "java/lang/Integer" "value" "I" (.int (j - 128))
theorem own_boxI {args : Array Value} {s : State} {aC : Addr} (ev : (Term.static "java/lang/Integer$IntegerCache" "cache" "[Ljava/lang/Integer;").eval args s none [] s = some (.ref aC)) (h2 : (Cond.arrayOf (Term.static "java/lang/Integer$IntegerCache" "cache" "[Ljava/lang/Integer;") (.object "java/lang/Integer")).before args s = true) (h4 : (Cond.eq (.length (Term.static "java/lang/Integer$IntegerCache" "cache" "[Ljava/lang/Integer;")) (.int 256)).before args s = true)
    (h5 : (Cond.all (Term.static "java/lang/Integer$IntegerCache" "cache" "[Ljava/lang/Integer;") (.and (.exactly (.elem (Term.static "java/lang/Integer$IntegerCache" "cache" "[Ljava/lang/Integer;") (.index 0)) "java/lang/Integer") (.eq (.field (.elem (Term.static "java/lang/Integer$IntegerCache" "cache" "[Ljava/lang/Integer;") (.index 0)) "java/lang/Integer" "value" "I") (.sub (.index 0) (.int 128))))).before args s = true) : own_BoxI s aC := by
  obtain ⟨cl, A⟩ := Arr.start ev (Cond.before_iff.mp h2)
  have hat : s.arrayAt? aC = some cl := IntBox.arrayAt_of A.1 A.2.1 A.2.2
  obtain ⟨hsz, hsize⟩ := IntBox.length_fwd h4 ev A.1 A.2.1 A.2.2
  have h256 : cl.slots.size = 256 := by
    have e := len_toInt hsz
    rw [hsize] at e
    have e2 : (256 : Int32).toInt = 256 := by decide
    omega
  have hall := Cond.all_elim ev hat (Cond.before_iff.mp h5)
  refine ⟨cl, A, h256, fun j hj => ?_⟩
  have hn : ¬ j < 0 := fun q => hj (Or.inl q)
  have hlt : j.toNatClampNeg < cl.slots.size := by rw [h256]; exact Nat.lt_of_not_le fun q => hj (Or.inr q)
  obtain ⟨g1, g2⟩ := and_e (hall _ hlt)
  obtain ⟨r, er⟩ := exa_v g1
  have ev' : (Term.static "java/lang/Integer$IntegerCache" "cache" "[Ljava/lang/Integer;").eval args s none [j.toNatClampNeg] s = some (.ref aC) := ev
  have ei : (Term.index 0).eval args s none [j.toNatClampNeg] s = some (.int j) := idx_at hn
  have el := elem_f (t := (Term.static "java/lang/Integer$IntegerCache" "cache" "[Ljava/lang/Integer;")) (a := .index 0) ev' ei hat hn
  have hr : cl.slots[j.toNatClampNeg]? = some (.ref r) := el.symm.trans er
  have es : (Term.sub (.index 0) (.int 128)).eval args s none [j.toNatClampNeg] s = some (.int (j - 128)) := by simp [Term.eval, (back32 hn).1]
  have ef := own_eqV g2 (w := .int (j - 128)) (es)
  exact ⟨r, hr, exa_at er g1, Fld.start ((fld_at er).symm.trans ef)⟩
theorem own_bkI (w : Int32) : (w + 128) - 128 = w := by simp
theorem own_placeI (w : Int32) (h1 : ¬ w < -128) (h2 : ¬ 127 < w) : ¬ ((w + 128) < 0 ∨ 256 ≤ (w + 128).toNatClampNeg) ∧ (w + 128).toNatClampNeg < 256 := by
  rw [Int32.lt_iff_toInt_lt] at h1 h2
  have e1 : (-128 : Int32).toInt = -128 := by decide
  have e2 : (127 : Int32).toInt = 127 := by decide
  have e3 : (128 : Int32).toInt = 128 := by decide
  have e : (w + 128).toInt = w.toInt + 128 := by
    rw [XT.add32 ⟨by omega, by omega⟩, e3]
  have hn : ¬ (w + 128) < 0 := by rw [XT.negI32]; omega
  have hc := nat_of hn
  refine ⟨fun q => q.elim hn fun q => ?_, ?_⟩ <;> omega
theorem own_d_jdk_18_method_1_code_0 : decode jdk_18_method_1_code 0 = .ok (.aload_n 0, 1) := by decide +kernel
theorem own_d_jdk_18_method_1_code_1 : decode jdk_18_method_1_code 1 = .ok (.invokespecial 1, 3) := by decide +kernel
theorem own_d_jdk_18_method_1_code_4 : decode jdk_18_method_1_code 4 = .ok (.return_, 1) := by decide +kernel
theorem own_pn0 : plainFor (⟨"java/lang/Number", "<init>", "()V"⟩ : MethodName) = true := by decide +kernel
def own_rm_number_Q (Z : State) (r : Addr) (h0 : Heap) (n0 : Nat) (v : Option Value) (h : Heap) (L : List Loc) : Prop := Fr n0 L ∧ v = none ∧ h = h0
theorem own_rm_number_ef (m : MethodId) (r : Addr) : entryFrame m #[(.ref r)] 1 = mkF m 0 #[.val (.ref r)] [] := by first | (simp [entryFrame, mkF, argsToLocals, Value.category]; done) | rfl
set_option maxRecDepth 65536 in
set_option maxHeartbeats 40000000 in
theorem own_rm_number (l : Launch) (Z : State) (a0 : Array Value) (hw : ∀ d ∈ tables_1, d.before a0 Z = true) (ws : List Jvm.Cond) (r : Addr) (h0 : Heap) (n0 : Nat) (Z0 : n0 ≤ h0.size)  :
    MetFree l (⟨"java/lang/Number", "<init>", "()V"⟩ : MethodName) (head1 (Jvm.Cond.code (⟨"java/lang/Number", "<init>", "()V"⟩ : MethodName) jdk_18_method_1_code 1 none :: ws) ({ frames := 1, cells := 0, slots := 0, locals := 12 } : Room)) (fun a U => a = #[(.ref r)] ∧ Z.Warmed39 U.vm ∧ U.heap = h0) (fun _ _ _ _ _ => True) (fun _ U o U' => ∃ v L, o = .returned v ∧ own_rm_number_Q Z r h0 n0 v U'.heap L ∧ FrameEnd U o U' L ({ frames := 1, cells := 0, slots := 0, locals := 12 } : Room).cells ({ frames := 1, cells := 0, slots := 0, locals := 12 } : Room).slots) := by
  refine MetFree.of_bodySF own_pn0 hisR ?_
  intro p e s m args below meth c s₁ Bd hml0 hP hK
  obtain ⟨rfl, hZ, hh⟩ := hP
  have hx := Bd.exec
  have hby := Bd.bytes
  have hml : c.maxLocals = 1 := hml0
  have hlk := BodyLoose.notSynchronized Bd
  have hown : s.vm.findClass "java/lang/Number" = some m.cls := findClass_of_methodNamed Bd.named
  have hnm := (name_of_methodNamed Bd.named Bd.method).1
  have X0 : Stand p l e ({ frames := 1, cells := 0, slots := 0, locals := 12 } : Room) s m #[(.ref r)] below meth c s₁ [] 0 0 := Stand.of_body Bd
  have e0 : s₁.heap = h0 := by rw [← hh, Bd.state]; rfl
  have N0 := Fr.nil n0
  show own_Go p e below s (own_rm_number_Q Z r h0 n0) ({ frames := 1, cells := 0, slots := 0, locals := 12 } : Room).cells ({ frames := 1, cells := 0, slots := 0, locals := 12 } : Room).slots (s₁.setTop (entryFrame m #[(.ref r)] 1))
  rw [own_rm_number_ef]
  show own_Go p e below s _ _ _ (s₁.setTop (mkF m 0 #[.val (.ref r)] []))
  refine own_st (fun _ k => XS.aloadN X0.here hx rfl (hb hby own_d_jdk_18_method_1_code_0) rfl rfl k) ?_
  show own_Go p e below s _ _ _ (s₁.setTop (mkF m 1 #[.val (.ref r)] [(.ref r)]))
  obtain ⟨T1, X1, e1, st1⟩ := initO X0 hx hZ hown (hw _ (List.mem_of_getElem? (i := 55) rfl)) (hw _ (List.mem_of_getElem? (i := 20) rfl)) (hw _ (List.mem_of_getElem? (i := 21) rfl)) e0 (g := (mkF m 1 #[.val (.ref r)] [(.ref r)])) rfl (by rw [hml]; rfl) rfl (hb hby own_d_jdk_18_method_1_code_1) (by decide) (W := 0) (by show 2 * 0 + _ ≤ _; exact Nat.le_of_eq rfl) (by decide)
  refine own_st st1 ?_
  show own_Go p e below s _ _ _ (T1.setTop (mkF m 4 #[.val (.ref r)] []))
  refine own_ret0 X1 hx hlk Bd.returns (hb hby own_d_jdk_18_method_1_code_4) (by decide) (by decide) ?_
  rw [e1]
  exact ⟨N0, rfl, rfl⟩
theorem own_d_jdk_33_method_23_code_0 : decode jdk_33_method_23_code 0 = .ok (.aload_n 0, 1) := by decide +kernel
theorem own_d_jdk_33_method_23_code_1 : decode jdk_33_method_23_code 1 = .ok (.invokespecial 202, 3) := by decide +kernel
theorem own_d_jdk_33_method_23_code_4 : decode jdk_33_method_23_code 4 = .ok (.aload_n 0, 1) := by decide +kernel
theorem own_d_jdk_33_method_23_code_5 : decode jdk_33_method_23_code 5 = .ok (.iload_n 1, 1) := by decide +kernel
theorem own_d_jdk_33_method_23_code_6 : decode jdk_33_method_23_code 6 = .ok (.putfield 205, 3) := by decide +kernel
theorem own_d_jdk_33_method_23_code_9 : decode jdk_33_method_23_code 9 = .ok (.return_, 1) := by decide +kernel
theorem own_pn1 : plainFor (⟨"java/lang/Integer", "<init>", "(I)V"⟩ : MethodName) = true := by decide +kernel
theorem own_pd0 : parseMethodDescriptor "()V" = some ⟨[], none⟩ := by decide +kernel
def own_rm_boxinitI_Q (Z : State) (r : Addr) (p1 : Int32) (h0 : Heap) (n0 : Nat) (v : Option Value) (h : Heap) (L : List Loc) : Prop := Fr n0 L ∧ v = none ∧ Keep h0 h [r] ∧ Exa Z h r "java/lang/Integer" ∧ Fld Z h r "java/lang/Integer" "value" "I" (.int p1)
theorem own_rm_boxinitI_ef (m : MethodId) (r : Addr) (p1 : Int32) : entryFrame m #[(.ref r), (.int p1)] 2 = mkF m 0 #[.val (.ref r), .val (.int p1)] [] := by first | (simp [entryFrame, mkF, argsToLocals, Value.category]; done) | rfl
set_option maxRecDepth 65536 in
set_option maxHeartbeats 40000000 in
theorem own_rm_boxinitI (l : Launch) (Z : State) (a0 : Array Value) (hw : ∀ d ∈ tables_1, d.before a0 Z = true) (ws : List Jvm.Cond) (r : Addr) (p1 : Int32) (h0 : Heap) (n0 : Nat) (Z0 : n0 ≤ h0.size) (E1 : Exa Z h0 r "java/lang/Integer") (F1 : Fld Z h0 r "java/lang/Integer" "value" "I" (.int (0 : Int32))) (g1 : n0 ≤ r) :
    MetFree l (⟨"java/lang/Integer", "<init>", "(I)V"⟩ : MethodName) (head1 (Jvm.Cond.code (⟨"java/lang/Integer", "<init>", "(I)V"⟩ : MethodName) jdk_33_method_23_code 2 none :: ws) ({ frames := 2, cells := 0, slots := 0, locals := 24 } : Room)) (fun a U => a = #[(.ref r), (.int p1)] ∧ Z.Warmed39 U.vm ∧ U.heap = h0) (fun _ _ _ _ _ => True) (fun _ U o U' => ∃ v L, o = .returned v ∧ own_rm_boxinitI_Q Z r p1 h0 n0 v U'.heap L ∧ FrameEnd U o U' L ({ frames := 2, cells := 0, slots := 0, locals := 24 } : Room).cells ({ frames := 2, cells := 0, slots := 0, locals := 24 } : Room).slots) := by
  refine MetFree.of_bodySF own_pn1 hisR ?_
  intro p e s m args below meth c s₁ Bd hml0 hP hK
  obtain ⟨rfl, hZ, hh⟩ := hP
  have hx := Bd.exec
  have hby := Bd.bytes
  have hml : c.maxLocals = 2 := hml0
  have hlk := BodyLoose.notSynchronized Bd
  have hown : s.vm.findClass "java/lang/Integer" = some m.cls := findClass_of_methodNamed Bd.named
  have hnm := (name_of_methodNamed Bd.named Bd.method).1
  have X0 : Stand p l e ({ frames := 2, cells := 0, slots := 0, locals := 24 } : Room) s m #[(.ref r), (.int p1)] below meth c s₁ [] 0 0 := Stand.of_body Bd
  have e0 : s₁.heap = h0 := by rw [← hh, Bd.state]; rfl
  have N0 := Fr.nil n0
  have Kp0 : Keep h0 h0 [r] := Keep.refl _ _
  show own_Go p e below s (own_rm_boxinitI_Q Z r p1 h0 n0) ({ frames := 2, cells := 0, slots := 0, locals := 24 } : Room).cells ({ frames := 2, cells := 0, slots := 0, locals := 24 } : Room).slots (s₁.setTop (entryFrame m #[(.ref r), (.int p1)] 2))
  rw [own_rm_boxinitI_ef]
  show own_Go p e below s _ _ _ (s₁.setTop (mkF m 0 #[.val (.ref r), .val (.int p1)] []))
  refine own_st (fun _ k => XS.aloadN X0.here hx rfl (hb hby own_d_jdk_33_method_23_code_0) rfl rfl k) ?_
  show own_Go p e below s _ _ _ (s₁.setTop (mkF m 1 #[.val (.ref r), .val (.int p1)] [(.ref r)]))
  obtain ⟨_, _, ⟨T2, L2, k2, n2⟩, -, X2, ⟨Lc2, hQ2, l2, y2, z2⟩, st2⟩ := X0.specialBack hx (y := (⟨"java/lang/Number", "<init>", "()V"⟩ : MethodName)) rfl hown (mvT hZ (hw _ (List.mem_of_getElem? (i := 49) rfl))) (mvT hZ (hw _ (List.mem_of_getElem? (i := 50) rfl))) (mvT hZ (hw _ (List.mem_of_getElem? (i := 54) rfl))) (by decide) (backOf (W := 0) (own_rm_number l Z a0 hw [] r h0 n0 Z0 ) hZ (hw _ (List.mem_of_getElem? (i := 54) rfl)) (hw _ (List.mem_of_getElem? (i := 53) rfl)) (by decide) (by decide)) (g := (mkF m 1 #[.val (.ref r), .val (.int p1)] [(.ref r)])) rfl (by rw [hml]; rfl) (Steps.refl _) (a := r) (argsL := []) (rest := []) (lenOf own_pd0 rfl) rfl (by show 2 * 0 + _ ≤ _; exact Nat.le_of_eq rfl) (hb hby own_d_jdk_33_method_23_code_1) (fun _ _ => ⟨rfl, e0, (by decide : 0 + 0 ≤ _), (by decide : 0 + 0 ≤ _)⟩)
  dsimp only [Pt.U, Pt.locs, Pt.cells, Pt.slots] at X2 l2 y2 z2 st2 hQ2
  subst l2 y2 z2
  obtain ⟨N2q, rfl, eh2⟩ := hQ2
  have N3 := Fr.app N0 N2q
  refine own_tr st2 ?_
  show own_Go p e below s _ _ _ (T2.setTop (mkF m 4 #[.val (.ref r), .val (.int p1)] []))
  refine own_st (fun _ k => XS.aloadN X2.here hx rfl (hb hby own_d_jdk_33_method_23_code_4) rfl rfl k) ?_
  show own_Go p e below s _ _ _ (T2.setTop (mkF m 5 #[.val (.ref r), .val (.int p1)] [(.ref r)]))
  refine own_st (fun _ k => XS.iloadN X2.here hx rfl (hb hby own_d_jdk_33_method_23_code_5) rfl k) ?_
  show own_Go p e below s _ _ _ (T2.setTop (mkF m 6 #[.val (.ref r), .val (.int p1)] [(.int p1), (.ref r)]))
  obtain ⟨T4, h4, X4, e4, W4, st4⟩ := putF X2 hx hZ hown (host := "") (Or.inl (hw _ (List.mem_of_getElem? (i := 56) rfl))) Via.refl eh2 F1 E1 (Or.inr ⟨(hw _ (List.mem_of_getElem? (i := 57) rfl)), rfl, hnm⟩) (hw _ (List.mem_of_getElem? (i := 44) rfl)) (ty := .int) (by decide) rfl rfl (g := (mkF m 6 #[.val (.ref r), .val (.int p1)] [(.int p1), (.ref r)])) rfl rfl (hb hby own_d_jdk_33_method_23_code_6)
  refine own_st st4 ?_
  have N5 := Fr.snoc X4 N3 g1
  have F6 : Fld Z h4 r "java/lang/Integer" "value" "I" (.int p1) := F1.same W4
  have Zs7 : n0 ≤ h4.size := Nat.le_trans Z0 (Nat.le_of_eq W4.size.symm)
  have Kp8 : Keep h0 h4 [r] := Kp0.wr W4 (Or.inl (List.mem_of_getElem? (i := 0) rfl))
  show own_Go p e below s _ _ _ (T4.setTop (mkF m 9 #[.val (.ref r), .val (.int p1)] []))
  have F9 : Exa Z h4 r "java/lang/Integer" := (E1.wr W4)
  refine own_ret0 X4 hx hlk Bd.returns (hb hby own_d_jdk_33_method_23_code_9) (by decide) (by decide) ?_
  rw [e4]
  exact ⟨N5, rfl, Kp8, F9, F6⟩
theorem own_d_jdk_33_method_22_code_0 : decode jdk_33_method_22_code 0 = .ok (.iload_n 0, 1) := by decide +kernel
theorem own_d_jdk_33_method_22_code_1 : decode jdk_33_method_22_code 1 = .ok (.bipush (-128), 2) := by decide +kernel
theorem own_d_jdk_33_method_22_code_3 : decode jdk_33_method_22_code 3 = .ok (.if_icmp .lt 20, 3) := by decide +kernel
theorem own_d_jdk_33_method_22_code_6 : decode jdk_33_method_22_code 6 = .ok (.iload_n 0, 1) := by decide +kernel
theorem own_d_jdk_33_method_22_code_7 : decode jdk_33_method_22_code 7 = .ok (.getstatic 191, 3) := by decide +kernel
theorem own_d_jdk_33_method_22_code_10 : decode jdk_33_method_22_code 10 = .ok (.if_icmp .gt 13, 3) := by decide +kernel
theorem own_d_jdk_33_method_22_code_13 : decode jdk_33_method_22_code 13 = .ok (.getstatic 195, 3) := by decide +kernel
theorem own_d_jdk_33_method_22_code_16 : decode jdk_33_method_22_code 16 = .ok (.iload_n 0, 1) := by decide +kernel
theorem own_d_jdk_33_method_22_code_17 : decode jdk_33_method_22_code 17 = .ok (.sipush 128, 3) := by decide +kernel
theorem own_d_jdk_33_method_22_code_20 : decode jdk_33_method_22_code 20 = .ok (.iadd, 1) := by decide +kernel
theorem own_d_jdk_33_method_22_code_21 : decode jdk_33_method_22_code 21 = .ok (.aaload, 1) := by decide +kernel
theorem own_d_jdk_33_method_22_code_22 : decode jdk_33_method_22_code 22 = .ok (.areturn, 1) := by decide +kernel
theorem own_d_jdk_33_method_22_code_23 : decode jdk_33_method_22_code 23 = .ok (.new 1, 3) := by decide +kernel
theorem own_d_jdk_33_method_22_code_26 : decode jdk_33_method_22_code 26 = .ok (.dup, 1) := by decide +kernel
theorem own_d_jdk_33_method_22_code_27 : decode jdk_33_method_22_code 27 = .ok (.iload_n 0, 1) := by decide +kernel
theorem own_d_jdk_33_method_22_code_28 : decode jdk_33_method_22_code 28 = .ok (.invokespecial 199, 3) := by decide +kernel
theorem own_d_jdk_33_method_22_code_31 : decode jdk_33_method_22_code 31 = .ok (.areturn, 1) := by decide +kernel
theorem own_pn2 : plainFor (⟨"java/lang/Integer", "valueOf", "(I)Ljava/lang/Integer;"⟩ : MethodName) = true := by decide +kernel
theorem own_pd1 : parseMethodDescriptor "(I)V" = some ⟨[.int], none⟩ := by decide +kernel
def own_rm_valueOfI_Q (Z : State) (p1 : Int32) (a_cacheI : Addr) (h0 : Heap) (n0 : Nat) (v : Option Value) (h : Heap) (L : List Loc) : Prop := ∃ r : Addr, Fr n0 L ∧ v = some (.ref r) ∧ Keep h0 h [] ∧ Exa Z h r "java/lang/Integer" ∧ Fld Z h r "java/lang/Integer" "value" "I" (.int p1)
theorem own_rm_valueOfI_ef (m : MethodId) (p1 : Int32) : entryFrame m #[(.int p1)] 1 = mkF m 0 #[.val (.int p1)] [] := by first | (simp [entryFrame, mkF, argsToLocals, Value.category]; done) | rfl
set_option maxRecDepth 65536 in
set_option maxHeartbeats 40000000 in
theorem own_rm_valueOfI (l : Launch) (Z : State) (a0 : Array Value) (hw : ∀ d ∈ tables_1, d.before a0 Z = true) (ws : List Jvm.Cond) (p1 : Int32) (a_cacheI : Addr) (h0 : Heap) (n0 : Nat) (Z0 : n0 ≤ h0.size) (O0 : Old Z n0 h0) (S_cacheI : Sta Z Z.heap "java/lang/Integer$IntegerCache" "cache" "[Ljava/lang/Integer;" (.ref a_cacheI)) (BxI : own_BoxI Z a_cacheI) (S_high : Sta Z Z.heap "java/lang/Integer$IntegerCache" "high" "I" (.int (127 : Int32))) :
    MetFree l (⟨"java/lang/Integer", "valueOf", "(I)Ljava/lang/Integer;"⟩ : MethodName) (head1 (Jvm.Cond.code (⟨"java/lang/Integer", "valueOf", "(I)Ljava/lang/Integer;"⟩ : MethodName) jdk_33_method_22_code 1 (some (.object "java/lang/Integer")) :: ws) ({ frames := 3, cells := 1, slots := 1, locals := 38 } : Room)) (fun a U => a = #[(.int p1)] ∧ Z.Warmed39 U.vm ∧ U.heap = h0) (fun _ _ _ _ _ => True) (fun _ U o U' => ∃ v L, o = .returned v ∧ own_rm_valueOfI_Q Z p1 a_cacheI h0 n0 v U'.heap L ∧ FrameEnd U o U' L ({ frames := 3, cells := 1, slots := 1, locals := 38 } : Room).cells ({ frames := 3, cells := 1, slots := 1, locals := 38 } : Room).slots) := by
  refine MetFree.of_bodySF own_pn2 hisR ?_
  intro p e s m args below meth c s₁ Bd hml0 hP hK
  obtain ⟨rfl, hZ, hh⟩ := hP
  have hx := Bd.exec
  have hby := Bd.bytes
  have hml : c.maxLocals = 1 := hml0
  have hlk := BodyLoose.notSynchronized Bd
  have hown : s.vm.findClass "java/lang/Integer" = some m.cls := findClass_of_methodNamed Bd.named
  have hnm := (name_of_methodNamed Bd.named Bd.method).1
  have X0 : Stand p l e ({ frames := 3, cells := 1, slots := 1, locals := 38 } : Room) s m #[(.int p1)] below meth c s₁ [] 0 0 := Stand.of_body Bd
  have e0 : s₁.heap = h0 := by rw [← hh, Bd.state]; rfl
  have N0 := Fr.nil n0
  have Kp0 : Keep h0 h0 [] := Keep.refl _ _
  show own_Go p e below s (own_rm_valueOfI_Q Z p1 a_cacheI h0 n0) ({ frames := 3, cells := 1, slots := 1, locals := 38 } : Room).cells ({ frames := 3, cells := 1, slots := 1, locals := 38 } : Room).slots (s₁.setTop (entryFrame m #[(.int p1)] 1))
  rw [own_rm_valueOfI_ef]
  show own_Go p e below s _ _ _ (s₁.setTop (mkF m 0 #[.val (.int p1)] []))
  refine own_st (fun _ k => XS.iloadN X0.here hx rfl (hb hby own_d_jdk_33_method_22_code_0) rfl k) ?_
  show own_Go p e below s _ _ _ (s₁.setTop (mkF m 1 #[.val (.int p1)] [(.int p1)]))
  refine own_st (fun _ k => XT.bipushV X0.here hx rfl (-128 : Int32) (hb hby own_d_jdk_33_method_22_code_1) (by decide) k) ?_
  show own_Go p e below s _ _ _ (s₁.setTop (mkF m 3 #[.val (.int p1)] [(.int (-128 : Int32)), (.int p1)]))
  by_cases hc10 : p1 < (-128 : Int32)
  · refine own_st (fun _ k => XS.icmpYes X0.here hx rfl (pc0 := 3) (pc' := 23) rfl (hb hby own_d_jdk_33_method_22_code_3) rfl (XT.ii_lt_t hc10) (by decide) (by decide) k) ?_
    show own_Go p e below s _ _ _ (s₁.setTop (mkF m 23 #[.val (.int p1)] []))
    obtain ⟨T11, h11, X11, e11, E11, A11, D11, -, st11⟩ := newO X0 hx hZ hown (hw _ (List.mem_of_getElem? (i := 43) rfl)) (hw _ (List.mem_of_getElem? (i := 44) rfl)) (hw _ (List.mem_of_getElem? (i := 3) rfl)) e0 (g := (mkF m 23 #[.val (.int p1)] [])) rfl (hb hby own_d_jdk_33_method_22_code_23) (by decide) (by decide)
    obtain ⟨b11, g11⟩ : ∃ z, z = h0.size := ⟨_, rfl⟩
    rw [← g11] at A11 D11 st11
    refine own_st st11 ?_
    have Zs12 : n0 ≤ h11.size := Nat.le_trans Z0 E11.1
    have Kp13 : Keep h0 h11 [] := Kp0.ext E11
    have g14 : n0 ≤ b11 := Nat.le_trans Z0 (Nat.le_of_eq g11.symm)
    have sz15 : h0.size ≤ b11 := Nat.le_trans Kp0.1 (Nat.le_of_eq g11.symm)
    have F16 : Fld Z h11 b11 "java/lang/Integer" "value" "I" (.int (0 : Int32)) := D11 (Or.inr (hw _ (List.mem_of_getElem? (i := 57) rfl))) (ty := .int) (by decide)
    show own_Go p e below s _ _ _ (T11.setTop (mkF m 26 #[.val (.int p1)] [(.ref b11)]))
    refine own_st (fun _ k => XS.dup X11.here hx rfl (hb hby own_d_jdk_33_method_22_code_26) rfl rfl k) ?_
    show own_Go p e below s _ _ _ (T11.setTop (mkF m 27 #[.val (.int p1)] [(.ref b11), (.ref b11)]))
    refine own_st (fun _ k => XS.iloadN X11.here hx rfl (hb hby own_d_jdk_33_method_22_code_27) rfl k) ?_
    show own_Go p e below s _ _ _ (T11.setTop (mkF m 28 #[.val (.int p1)] [(.int p1), (.ref b11), (.ref b11)]))
    obtain ⟨_, _, ⟨T17, L17, k17, n17⟩, -, X17, ⟨Lc17, hQ17, l17, y17, z17⟩, st17⟩ := X11.specialBack hx (y := (⟨"java/lang/Integer", "<init>", "(I)V"⟩ : MethodName)) rfl hown (mvT hZ (hw _ (List.mem_of_getElem? (i := 45) rfl))) (mvT hZ (hw _ (List.mem_of_getElem? (i := 46) rfl))) (mvT hZ (hw _ (List.mem_of_getElem? (i := 48) rfl))) (by decide) (backOf (W := 1) (own_rm_boxinitI l Z a0 hw [] b11 p1 h11 n0 Zs12 A11 F16 g14) hZ (hw _ (List.mem_of_getElem? (i := 48) rfl)) (hw _ (List.mem_of_getElem? (i := 3) rfl)) (by decide) (by decide)) (g := (mkF m 28 #[.val (.int p1)] [(.int p1), (.ref b11), (.ref b11)])) rfl (by rw [hml]; rfl) (Steps.refl _) (a := b11) (argsL := [(.int p1)]) (rest := [(.ref b11)]) (lenOf own_pd1 rfl) rfl (by show 2 * 0 + _ ≤ _; exact Nat.le_of_eq rfl) (hb hby own_d_jdk_33_method_22_code_28) (fun _ _ => ⟨rfl, e11, (by decide : 1 + 0 ≤ _), (by decide : 1 + 0 ≤ _)⟩)
    dsimp only [Pt.U, Pt.locs, Pt.cells, Pt.slots] at X17 l17 y17 z17 st17 hQ17
    subst l17 y17 z17
    obtain ⟨N17q, rfl, K17, q18, q19⟩ := hQ17
    have N20 := Fr.app N0 N17q
    refine own_tr st17 ?_
    have Zs21 : n0 ≤ T17.heap.size := Nat.le_trans Zs12 K17.1
    have Kp22 : Keep h0 T17.heap [] := Kp13.trans K17 (allS (Or.inr sz15) all0)
    show own_Go p e below s _ _ _ (T17.setTop (mkF m 31 #[.val (.int p1)] [(.ref b11)]))
    refine own_retA X17 hx hlk Bd.returns rfl (hb hby own_d_jdk_33_method_22_code_31) (by decide) (by decide) ?_
    skip
    exact ⟨b11, N20, rfl, Kp22, q18, q19⟩
  · refine own_st (fun _ k => XS.icmpNo X0.here hx rfl (hb hby own_d_jdk_33_method_22_code_3) rfl (XT.ii_lt_f hc10) k) ?_
    show own_Go p e below s _ _ _ (s₁.setTop (mkF m 6 #[.val (.int p1)] []))
    refine own_st (fun _ k => XS.iloadN X0.here hx rfl (hb hby own_d_jdk_33_method_22_code_6) rfl k) ?_
    show own_Go p e below s _ _ _ (s₁.setTop (mkF m 7 #[.val (.int p1)] [(.int p1)]))
    have F23 : Sta Z h0 "java/lang/Integer$IntegerCache" "high" "I" (.int (127 : Int32)) := S_high.ext O0.2
    obtain ⟨T24, X24, e24, st24⟩ := getS2 X0 hx hZ hown (host := "") (Or.inl (hw _ (List.mem_of_getElem? (i := 5) rfl))) Via.refl e0 F23 (g := (mkF m 7 #[.val (.int p1)] [(.int p1)])) rfl (hb hby own_d_jdk_33_method_22_code_7)
    refine own_st st24 ?_
    show own_Go p e below s _ _ _ (T24.setTop (mkF m 10 #[.val (.int p1)] [(.int (127 : Int32)), (.int p1)]))
    by_cases hc25 : (127 : Int32) < p1
    · refine own_st (fun _ k => XS.icmpYes X24.here hx rfl (pc0 := 10) (pc' := 23) rfl (hb hby own_d_jdk_33_method_22_code_10) rfl (XT.ii_gt_t hc25) (by decide) (by decide) k) ?_
      show own_Go p e below s _ _ _ (T24.setTop (mkF m 23 #[.val (.int p1)] []))
      obtain ⟨T26, h26, X26, e26, E26, A26, D26, -, st26⟩ := newO X24 hx hZ hown (hw _ (List.mem_of_getElem? (i := 43) rfl)) (hw _ (List.mem_of_getElem? (i := 44) rfl)) (hw _ (List.mem_of_getElem? (i := 3) rfl)) e24 (g := (mkF m 23 #[.val (.int p1)] [])) rfl (hb hby own_d_jdk_33_method_22_code_23) (by decide) (by decide)
      obtain ⟨b26, g26⟩ : ∃ z, z = h0.size := ⟨_, rfl⟩
      rw [← g26] at A26 D26 st26
      refine own_st st26 ?_
      have Zs27 : n0 ≤ h26.size := Nat.le_trans Z0 E26.1
      have Kp28 : Keep h0 h26 [] := Kp0.ext E26
      have g29 : n0 ≤ b26 := Nat.le_trans Z0 (Nat.le_of_eq g26.symm)
      have sz30 : h0.size ≤ b26 := Nat.le_trans Kp0.1 (Nat.le_of_eq g26.symm)
      have F31 : Fld Z h26 b26 "java/lang/Integer" "value" "I" (.int (0 : Int32)) := D26 (Or.inr (hw _ (List.mem_of_getElem? (i := 57) rfl))) (ty := .int) (by decide)
      show own_Go p e below s _ _ _ (T26.setTop (mkF m 26 #[.val (.int p1)] [(.ref b26)]))
      refine own_st (fun _ k => XS.dup X26.here hx rfl (hb hby own_d_jdk_33_method_22_code_26) rfl rfl k) ?_
      show own_Go p e below s _ _ _ (T26.setTop (mkF m 27 #[.val (.int p1)] [(.ref b26), (.ref b26)]))
      refine own_st (fun _ k => XS.iloadN X26.here hx rfl (hb hby own_d_jdk_33_method_22_code_27) rfl k) ?_
      show own_Go p e below s _ _ _ (T26.setTop (mkF m 28 #[.val (.int p1)] [(.int p1), (.ref b26), (.ref b26)]))
      obtain ⟨_, _, ⟨T32, L32, k32, n32⟩, -, X32, ⟨Lc32, hQ32, l32, y32, z32⟩, st32⟩ := X26.specialBack hx (y := (⟨"java/lang/Integer", "<init>", "(I)V"⟩ : MethodName)) rfl hown (mvT hZ (hw _ (List.mem_of_getElem? (i := 45) rfl))) (mvT hZ (hw _ (List.mem_of_getElem? (i := 46) rfl))) (mvT hZ (hw _ (List.mem_of_getElem? (i := 48) rfl))) (by decide) (backOf (W := 1) (own_rm_boxinitI l Z a0 hw [] b26 p1 h26 n0 Zs27 A26 F31 g29) hZ (hw _ (List.mem_of_getElem? (i := 48) rfl)) (hw _ (List.mem_of_getElem? (i := 3) rfl)) (by decide) (by decide)) (g := (mkF m 28 #[.val (.int p1)] [(.int p1), (.ref b26), (.ref b26)])) rfl (by rw [hml]; rfl) (Steps.refl _) (a := b26) (argsL := [(.int p1)]) (rest := [(.ref b26)]) (lenOf own_pd1 rfl) rfl (by show 2 * 0 + _ ≤ _; exact Nat.le_of_eq rfl) (hb hby own_d_jdk_33_method_22_code_28) (fun _ _ => ⟨rfl, e26, (by decide : 1 + 0 ≤ _), (by decide : 1 + 0 ≤ _)⟩)
      dsimp only [Pt.U, Pt.locs, Pt.cells, Pt.slots] at X32 l32 y32 z32 st32 hQ32
      subst l32 y32 z32
      obtain ⟨N32q, rfl, K32, q33, q34⟩ := hQ32
      have N35 := Fr.app N0 N32q
      refine own_tr st32 ?_
      have Zs36 : n0 ≤ T32.heap.size := Nat.le_trans Zs27 K32.1
      have Kp37 : Keep h0 T32.heap [] := Kp28.trans K32 (allS (Or.inr sz30) all0)
      show own_Go p e below s _ _ _ (T32.setTop (mkF m 31 #[.val (.int p1)] [(.ref b26)]))
      refine own_retA X32 hx hlk Bd.returns rfl (hb hby own_d_jdk_33_method_22_code_31) (by decide) (by decide) ?_
      skip
      exact ⟨b26, N35, rfl, Kp37, q33, q34⟩
    · refine own_st (fun _ k => XS.icmpNo X24.here hx rfl (hb hby own_d_jdk_33_method_22_code_10) rfl (XT.ii_gt_f hc25) k) ?_
      show own_Go p e below s _ _ _ (T24.setTop (mkF m 13 #[.val (.int p1)] []))
      have F38 : Sta Z h0 "java/lang/Integer$IntegerCache" "cache" "[Ljava/lang/Integer;" (.ref a_cacheI) := S_cacheI.ext O0.2
      obtain ⟨T39, X39, e39, st39⟩ := getS2 X24 hx hZ hown (host := "") (Or.inl (hw _ (List.mem_of_getElem? (i := 7) rfl))) Via.refl e24 F38 (g := (mkF m 13 #[.val (.int p1)] [])) rfl (hb hby own_d_jdk_33_method_22_code_13)
      refine own_st st39 ?_
      show own_Go p e below s _ _ _ (T39.setTop (mkF m 16 #[.val (.int p1)] [(.ref a_cacheI)]))
      refine own_st (fun _ k => XS.iloadN X39.here hx rfl (hb hby own_d_jdk_33_method_22_code_16) rfl k) ?_
      show own_Go p e below s _ _ _ (T39.setTop (mkF m 17 #[.val (.int p1)] [(.int p1), (.ref a_cacheI)]))
      refine own_st (fun _ k => XT.sipushV X39.here hx rfl (128 : Int32) (hb hby own_d_jdk_33_method_22_code_17) (by decide) k) ?_
      show own_Go p e below s _ _ _ (T39.setTop (mkF m 20 #[.val (.int p1)] [(.int (128 : Int32)), (.int p1), (.ref a_cacheI)]))
      refine own_st (fun _ k => XS.iadd X39.here hx rfl (hb hby own_d_jdk_33_method_22_code_20) rfl k) ?_
      show own_Go p e below s _ _ _ (T39.setTop (mkF m 21 #[.val (.int p1)] [(.int (p1 + (128 : Int32))), (.ref a_cacheI)]))
      obtain ⟨hin0, hlt0⟩ := own_placeI p1 hc10 hc25
      obtain ⟨cl0, Ar0, Sz0, Hj0⟩ := BxI
      obtain ⟨r0, hat0, Er0, Fr0⟩ := Hj0 _ hin0
      refine own_st (fun _ k => X39.aaload hx (j := (p1 + (128 : Int32))) (v := .ref r0) (by rw [e39]; exact (Ar0.ext O0.2).1) (State.isArrayOf_alike hZ.alike Ar0.2.1) rfl Ar0.2.2 (by rw [Sz0]; exact hin0) hat0 (g := (mkF m 21 #[.val (.int p1)] [(.int (p1 + (128 : Int32))), (.ref a_cacheI)])) rfl rfl (hb hby own_d_jdk_33_method_22_code_21) _ k) ?_
      have hv1 : Fld Z Z.heap r0 "java/lang/Integer" "value" "I" (.int p1) := by rw [own_bkI p1] at Fr0; exact Fr0
      show own_Go p e below s _ _ _ (T39.setTop (mkF m 22 #[.val (.int p1)] [(.ref r0)]))
      have F40 : Exa Z h0 r0 "java/lang/Integer" := Er0.ext O0.2
      have F41 : Fld Z h0 r0 "java/lang/Integer" "value" "I" (.int p1) := hv1.ext O0.2
      refine own_retA X39 hx hlk Bd.returns rfl (hb hby own_d_jdk_33_method_22_code_22) (by decide) (by decide) ?_
      rw [e39]
      exact ⟨r0, N0, rfl, Kp0, F40, F41⟩
theorem own_d_jdk_30_method_1_code_0 : decode jdk_30_method_1_code 0 = .ok (.aload_n 0, 1) := by decide +kernel
theorem own_d_jdk_30_method_1_code_1 : decode jdk_30_method_1_code 1 = .ok (.invokespecial 1, 3) := by decide +kernel
theorem own_d_jdk_30_method_1_code_4 : decode jdk_30_method_1_code 4 = .ok (.return_, 1) := by decide +kernel
theorem own_pn3 : plainFor (⟨"java/lang/Record", "<init>", "()V"⟩ : MethodName) = true := by decide +kernel
def own_rm_record_Q (Z : State) (r : Addr) (h0 : Heap) (n0 : Nat) (v : Option Value) (h : Heap) (L : List Loc) : Prop := Fr n0 L ∧ v = none ∧ h = h0
theorem own_rm_record_ef (m : MethodId) (r : Addr) : entryFrame m #[(.ref r)] 1 = mkF m 0 #[.val (.ref r)] [] := by first | (simp [entryFrame, mkF, argsToLocals, Value.category]; done) | rfl
set_option maxRecDepth 65536 in
set_option maxHeartbeats 40000000 in
theorem own_rm_record (l : Launch) (Z : State) (a0 : Array Value) (hw : ∀ d ∈ tables_1, d.before a0 Z = true) (ws : List Jvm.Cond) (r : Addr) (h0 : Heap) (n0 : Nat) (Z0 : n0 ≤ h0.size)  :
    MetFree l (⟨"java/lang/Record", "<init>", "()V"⟩ : MethodName) (head1 (Jvm.Cond.code (⟨"java/lang/Record", "<init>", "()V"⟩ : MethodName) jdk_30_method_1_code 1 none :: ws) ({ frames := 1, cells := 0, slots := 0, locals := 12 } : Room)) (fun a U => a = #[(.ref r)] ∧ Z.Warmed39 U.vm ∧ U.heap = h0) (fun _ _ _ _ _ => True) (fun _ U o U' => ∃ v L, o = .returned v ∧ own_rm_record_Q Z r h0 n0 v U'.heap L ∧ FrameEnd U o U' L ({ frames := 1, cells := 0, slots := 0, locals := 12 } : Room).cells ({ frames := 1, cells := 0, slots := 0, locals := 12 } : Room).slots) := by
  refine MetFree.of_bodySF own_pn3 hisR ?_
  intro p e s m args below meth c s₁ Bd hml0 hP hK
  obtain ⟨rfl, hZ, hh⟩ := hP
  have hx := Bd.exec
  have hby := Bd.bytes
  have hml : c.maxLocals = 1 := hml0
  have hlk := BodyLoose.notSynchronized Bd
  have hown : s.vm.findClass "java/lang/Record" = some m.cls := findClass_of_methodNamed Bd.named
  have hnm := (name_of_methodNamed Bd.named Bd.method).1
  have X0 : Stand p l e ({ frames := 1, cells := 0, slots := 0, locals := 12 } : Room) s m #[(.ref r)] below meth c s₁ [] 0 0 := Stand.of_body Bd
  have e0 : s₁.heap = h0 := by rw [← hh, Bd.state]; rfl
  have N0 := Fr.nil n0
  show own_Go p e below s (own_rm_record_Q Z r h0 n0) ({ frames := 1, cells := 0, slots := 0, locals := 12 } : Room).cells ({ frames := 1, cells := 0, slots := 0, locals := 12 } : Room).slots (s₁.setTop (entryFrame m #[(.ref r)] 1))
  rw [own_rm_record_ef]
  show own_Go p e below s _ _ _ (s₁.setTop (mkF m 0 #[.val (.ref r)] []))
  refine own_st (fun _ k => XS.aloadN X0.here hx rfl (hb hby own_d_jdk_30_method_1_code_0) rfl rfl k) ?_
  show own_Go p e below s _ _ _ (s₁.setTop (mkF m 1 #[.val (.ref r)] [(.ref r)]))
  obtain ⟨T42, X42, e42, st42⟩ := initO X0 hx hZ hown (hw _ (List.mem_of_getElem? (i := 19) rfl)) (hw _ (List.mem_of_getElem? (i := 20) rfl)) (hw _ (List.mem_of_getElem? (i := 21) rfl)) e0 (g := (mkF m 1 #[.val (.ref r)] [(.ref r)])) rfl (by rw [hml]; rfl) rfl (hb hby own_d_jdk_30_method_1_code_1) (by decide) (W := 0) (by show 2 * 0 + _ ≤ _; exact Nat.le_of_eq rfl) (by decide)
  refine own_st st42 ?_
  show own_Go p e below s _ _ _ (T42.setTop (mkF m 4 #[.val (.ref r)] []))
  refine own_ret0 X42 hx hlk Bd.returns (hb hby own_d_jdk_30_method_1_code_4) (by decide) (by decide) ?_
  rw [e42]
  exact ⟨N0, rfl, rfl⟩
theorem own_d_prog_16_method_1_code_0 : decode prog_16_method_1_code 0 = .ok (.aload_n 0, 1) := by decide +kernel
theorem own_d_prog_16_method_1_code_1 : decode prog_16_method_1_code 1 = .ok (.invokespecial 1, 3) := by decide +kernel
theorem own_d_prog_16_method_1_code_4 : decode prog_16_method_1_code 4 = .ok (.aload_n 0, 1) := by decide +kernel
theorem own_d_prog_16_method_1_code_5 : decode prog_16_method_1_code 5 = .ok (.aload_n 1, 1) := by decide +kernel
theorem own_d_prog_16_method_1_code_6 : decode prog_16_method_1_code 6 = .ok (.putfield 7, 3) := by decide +kernel
theorem own_d_prog_16_method_1_code_9 : decode prog_16_method_1_code 9 = .ok (.aload_n 0, 1) := by decide +kernel
theorem own_d_prog_16_method_1_code_10 : decode prog_16_method_1_code 10 = .ok (.lload_n 2, 1) := by decide +kernel
theorem own_d_prog_16_method_1_code_11 : decode prog_16_method_1_code 11 = .ok (.putfield 13, 3) := by decide +kernel
theorem own_d_prog_16_method_1_code_14 : decode prog_16_method_1_code 14 = .ok (.aload_n 0, 1) := by decide +kernel
theorem own_d_prog_16_method_1_code_15 : decode prog_16_method_1_code 15 = .ok (.aload 4, 2) := by decide +kernel
theorem own_d_prog_16_method_1_code_17 : decode prog_16_method_1_code 17 = .ok (.putfield 17, 3) := by decide +kernel
theorem own_d_prog_16_method_1_code_20 : decode prog_16_method_1_code 20 = .ok (.return_, 1) := by decide +kernel
theorem own_pn4 : plainFor (⟨"com/example/wache/wache/ListFile$Mark", "<init>", "(Ljava/lang/Object;J[B)V"⟩ : MethodName) = true := by decide +kernel
def own_rm_initN_Q (Z : State) (r : Addr) (q2 : Int64) (q3 : Addr) (h0 : Heap) (n0 : Nat) (v : Option Value) (h : Heap) (L : List Loc) : Prop := Fr n0 L ∧ v = none ∧ Keep h0 h [r] ∧ Exa Z h r "com/example/wache/wache/ListFile$Mark" ∧ Fld Z h r "com/example/wache/wache/ListFile$Mark" "offset" "J" (.long q2) ∧ Fld Z h r "com/example/wache/wache/ListFile$Mark" "lastLine" "[B" (.ref q3)
theorem own_rm_initN_ef (m : MethodId) (r : Addr) (q2 : Int64) (q3 : Addr) : entryFrame m #[(.ref r), .null, (.long q2), (.ref q3)] 5 = mkF m 0 #[.val (.ref r), .val .null, .val (.long q2), .second, .val (.ref q3)] [] := by first | (simp [entryFrame, mkF, argsToLocals, Value.category]; done) | rfl
set_option maxRecDepth 65536 in
set_option maxHeartbeats 40000000 in
theorem own_rm_initN (l : Launch) (Z : State) (a0 : Array Value) (hw : ∀ d ∈ tables_1, d.before a0 Z = true) (ws : List Jvm.Cond) (r : Addr) (q2 : Int64) (q3 : Addr) (h0 : Heap) (n0 : Nat) (Z0 : n0 ≤ h0.size) (E1 : Exa Z h0 r "com/example/wache/wache/ListFile$Mark") (F1 : Fld Z h0 r "com/example/wache/wache/ListFile$Mark" "fileKey" "Ljava/lang/Object;" .null) (F2 : Fld Z h0 r "com/example/wache/wache/ListFile$Mark" "offset" "J" (.long (0 : Int64))) (F3 : Fld Z h0 r "com/example/wache/wache/ListFile$Mark" "lastLine" "[B" .null) (g1 : n0 ≤ r) :
    MetFree l (⟨"com/example/wache/wache/ListFile$Mark", "<init>", "(Ljava/lang/Object;J[B)V"⟩ : MethodName) (head1 (Jvm.Cond.code (⟨"com/example/wache/wache/ListFile$Mark", "<init>", "(Ljava/lang/Object;J[B)V"⟩ : MethodName) prog_16_method_1_code 5 none :: ws) ({ frames := 2, cells := 0, slots := 0, locals := 24 } : Room)) (fun a U => a = #[(.ref r), .null, (.long q2), (.ref q3)] ∧ Z.Warmed39 U.vm ∧ U.heap = h0) (fun _ _ _ _ _ => True) (fun _ U o U' => ∃ v L, o = .returned v ∧ own_rm_initN_Q Z r q2 q3 h0 n0 v U'.heap L ∧ FrameEnd U o U' L ({ frames := 2, cells := 0, slots := 0, locals := 24 } : Room).cells ({ frames := 2, cells := 0, slots := 0, locals := 24 } : Room).slots) := by
  refine MetFree.of_bodySF own_pn4 hisR ?_
  intro p e s m args below meth c s₁ Bd hml0 hP hK
  obtain ⟨rfl, hZ, hh⟩ := hP
  have hx := Bd.exec
  have hby := Bd.bytes
  have hml : c.maxLocals = 5 := hml0
  have hlk := BodyLoose.notSynchronized Bd
  have hown : s.vm.findClass "com/example/wache/wache/ListFile$Mark" = some m.cls := findClass_of_methodNamed Bd.named
  have hnm := (name_of_methodNamed Bd.named Bd.method).1
  have X0 : Stand p l e ({ frames := 2, cells := 0, slots := 0, locals := 24 } : Room) s m #[(.ref r), .null, (.long q2), (.ref q3)] below meth c s₁ [] 0 0 := Stand.of_body Bd
  have e0 : s₁.heap = h0 := by rw [← hh, Bd.state]; rfl
  have N0 := Fr.nil n0
  have Kp0 : Keep h0 h0 [r] := Keep.refl _ _
  show own_Go p e below s (own_rm_initN_Q Z r q2 q3 h0 n0) ({ frames := 2, cells := 0, slots := 0, locals := 24 } : Room).cells ({ frames := 2, cells := 0, slots := 0, locals := 24 } : Room).slots (s₁.setTop (entryFrame m #[(.ref r), .null, (.long q2), (.ref q3)] 5))
  rw [own_rm_initN_ef]
  show own_Go p e below s _ _ _ (s₁.setTop (mkF m 0 #[.val (.ref r), .val .null, .val (.long q2), .second, .val (.ref q3)] []))
  refine own_st (fun _ k => XS.aloadN X0.here hx rfl (hb hby own_d_prog_16_method_1_code_0) rfl rfl k) ?_
  show own_Go p e below s _ _ _ (s₁.setTop (mkF m 1 #[.val (.ref r), .val .null, .val (.long q2), .second, .val (.ref q3)] [(.ref r)]))
  obtain ⟨_, _, ⟨T43, L43, k43, n43⟩, -, X43, ⟨Lc43, hQ43, l43, y43, z43⟩, st43⟩ := X0.specialBack hx (y := (⟨"java/lang/Record", "<init>", "()V"⟩ : MethodName)) rfl hown (mvT hZ (hw _ (List.mem_of_getElem? (i := 14) rfl))) (mvT hZ (hw _ (List.mem_of_getElem? (i := 15) rfl))) (mvT hZ (hw _ (List.mem_of_getElem? (i := 18) rfl))) (by decide) (backOf (W := 0) (own_rm_record l Z a0 hw [] r h0 n0 Z0 ) hZ (hw _ (List.mem_of_getElem? (i := 18) rfl)) (hw _ (List.mem_of_getElem? (i := 17) rfl)) (by decide) (by decide)) (g := (mkF m 1 #[.val (.ref r), .val .null, .val (.long q2), .second, .val (.ref q3)] [(.ref r)])) rfl (by rw [hml]; rfl) (Steps.refl _) (a := r) (argsL := []) (rest := []) (lenOf own_pd0 rfl) rfl (by show 2 * 0 + _ ≤ _; exact Nat.le_of_eq rfl) (hb hby own_d_prog_16_method_1_code_1) (fun _ _ => ⟨rfl, e0, (by decide : 0 + 0 ≤ _), (by decide : 0 + 0 ≤ _)⟩)
  dsimp only [Pt.U, Pt.locs, Pt.cells, Pt.slots] at X43 l43 y43 z43 st43 hQ43
  subst l43 y43 z43
  obtain ⟨N43q, rfl, eh43⟩ := hQ43
  have N44 := Fr.app N0 N43q
  refine own_tr st43 ?_
  show own_Go p e below s _ _ _ (T43.setTop (mkF m 4 #[.val (.ref r), .val .null, .val (.long q2), .second, .val (.ref q3)] []))
  refine own_st (fun _ k => XS.aloadN X43.here hx rfl (hb hby own_d_prog_16_method_1_code_4) rfl rfl k) ?_
  show own_Go p e below s _ _ _ (T43.setTop (mkF m 5 #[.val (.ref r), .val .null, .val (.long q2), .second, .val (.ref q3)] [(.ref r)]))
  refine own_st (fun _ k => XS.aloadN X43.here hx rfl (hb hby own_d_prog_16_method_1_code_5) rfl rfl k) ?_
  show own_Go p e below s _ _ _ (T43.setTop (mkF m 6 #[.val (.ref r), .val .null, .val (.long q2), .second, .val (.ref q3)] [.null, (.ref r)]))
  obtain ⟨T45, h45, X45, e45, W45, st45⟩ := putF X43 hx hZ hown (host := "") (Or.inl (hw _ (List.mem_of_getElem? (i := 22) rfl))) Via.refl eh43 F1 E1 (Or.inr ⟨(hw _ (List.mem_of_getElem? (i := 23) rfl)), rfl, hnm⟩) (hw _ (List.mem_of_getElem? (i := 9) rfl)) (ty := (.object "java/lang/Object")) (by decide) rfl rfl (g := (mkF m 6 #[.val (.ref r), .val .null, .val (.long q2), .second, .val (.ref q3)] [.null, (.ref r)])) rfl rfl (hb hby own_d_prog_16_method_1_code_6)
  refine own_st st45 ?_
  have N46 := Fr.snoc X45 N44 g1
  have F47 : Fld Z h45 r "com/example/wache/wache/ListFile$Mark" "fileKey" "Ljava/lang/Object;" .null := F1.same W45
  have Zs48 : n0 ≤ h45.size := Nat.le_trans Z0 (Nat.le_of_eq W45.size.symm)
  have Kp49 : Keep h0 h45 [r] := Kp0.wr W45 (Or.inl (List.mem_of_getElem? (i := 0) rfl))
  show own_Go p e below s _ _ _ (T45.setTop (mkF m 9 #[.val (.ref r), .val .null, .val (.long q2), .second, .val (.ref q3)] []))
  refine own_st (fun _ k => XS.aloadN X45.here hx rfl (hb hby own_d_prog_16_method_1_code_9) rfl rfl k) ?_
  show own_Go p e below s _ _ _ (T45.setTop (mkF m 10 #[.val (.ref r), .val .null, .val (.long q2), .second, .val (.ref q3)] [(.ref r)]))
  refine own_st (fun _ k => XT.lloadN X45.here hx rfl (hb hby own_d_prog_16_method_1_code_10) rfl k) ?_
  show own_Go p e below s _ _ _ (T45.setTop (mkF m 11 #[.val (.ref r), .val .null, .val (.long q2), .second, .val (.ref q3)] [(.long q2), (.ref r)]))
  have F50 : Fld Z h45 r "com/example/wache/wache/ListFile$Mark" "offset" "J" (.long (0 : Int64)) := (F2.other W45 (Or.inr (slot_ne (Or.inr (hw _ (List.mem_of_getElem? (i := 25) rfl))) (Or.inr (hw _ (List.mem_of_getElem? (i := 23) rfl))) (by decide) (t := .long) (t' := (.object "java/lang/Object")) (by decide) (by decide))))
  have F51 : Exa Z h45 r "com/example/wache/wache/ListFile$Mark" := (E1.wr W45)
  obtain ⟨T52, h52, X52, e52, W52, st52⟩ := putF X45 hx hZ hown (host := "") (Or.inl (hw _ (List.mem_of_getElem? (i := 24) rfl))) Via.refl e45 F50 F51 (Or.inr ⟨(hw _ (List.mem_of_getElem? (i := 25) rfl)), rfl, hnm⟩) (hw _ (List.mem_of_getElem? (i := 9) rfl)) (ty := .long) (by decide) rfl rfl (g := (mkF m 11 #[.val (.ref r), .val .null, .val (.long q2), .second, .val (.ref q3)] [(.long q2), (.ref r)])) rfl rfl (hb hby own_d_prog_16_method_1_code_11)
  refine own_st st52 ?_
  have N53 := Fr.snoc X52 N46 g1
  have F54 : Fld Z h52 r "com/example/wache/wache/ListFile$Mark" "offset" "J" (.long q2) := F50.same W52
  have Zs55 : n0 ≤ h52.size := Nat.le_trans Zs48 (Nat.le_of_eq W52.size.symm)
  have Kp56 : Keep h0 h52 [r] := Kp49.wr W52 (Or.inl (List.mem_of_getElem? (i := 0) rfl))
  show own_Go p e below s _ _ _ (T52.setTop (mkF m 14 #[.val (.ref r), .val .null, .val (.long q2), .second, .val (.ref q3)] []))
  refine own_st (fun _ k => XS.aloadN X52.here hx rfl (hb hby own_d_prog_16_method_1_code_14) rfl rfl k) ?_
  show own_Go p e below s _ _ _ (T52.setTop (mkF m 15 #[.val (.ref r), .val .null, .val (.long q2), .second, .val (.ref q3)] [(.ref r)]))
  refine own_st (fun _ k => XS.aload X52.here hx rfl (hb hby own_d_prog_16_method_1_code_15) rfl rfl k) ?_
  show own_Go p e below s _ _ _ (T52.setTop (mkF m 17 #[.val (.ref r), .val .null, .val (.long q2), .second, .val (.ref q3)] [(.ref q3), (.ref r)]))
  have F57 : Fld Z h52 r "com/example/wache/wache/ListFile$Mark" "lastLine" "[B" .null := ((F3.other W45 (Or.inr (slot_ne (Or.inr (hw _ (List.mem_of_getElem? (i := 27) rfl))) (Or.inr (hw _ (List.mem_of_getElem? (i := 23) rfl))) (by decide) (t := (.array .byte)) (t' := (.object "java/lang/Object")) (by decide) (by decide)))).other W52 (Or.inr (slot_ne (Or.inr (hw _ (List.mem_of_getElem? (i := 27) rfl))) (Or.inr (hw _ (List.mem_of_getElem? (i := 25) rfl))) (by decide) (t := (.array .byte)) (t' := .long) (by decide) (by decide))))
  have F58 : Exa Z h52 r "com/example/wache/wache/ListFile$Mark" := (F51.wr W52)
  obtain ⟨T59, h59, X59, e59, W59, st59⟩ := putF X52 hx hZ hown (host := "") (Or.inl (hw _ (List.mem_of_getElem? (i := 26) rfl))) Via.refl e52 F57 F58 (Or.inr ⟨(hw _ (List.mem_of_getElem? (i := 27) rfl)), rfl, hnm⟩) (hw _ (List.mem_of_getElem? (i := 9) rfl)) (ty := (.array .byte)) (by decide) rfl rfl (g := (mkF m 17 #[.val (.ref r), .val .null, .val (.long q2), .second, .val (.ref q3)] [(.ref q3), (.ref r)])) rfl rfl (hb hby own_d_prog_16_method_1_code_17)
  refine own_st st59 ?_
  have N60 := Fr.snoc X59 N53 g1
  have F61 : Fld Z h59 r "com/example/wache/wache/ListFile$Mark" "lastLine" "[B" (.ref q3) := F57.same W59
  have Zs62 : n0 ≤ h59.size := Nat.le_trans Zs55 (Nat.le_of_eq W59.size.symm)
  have Kp63 : Keep h0 h59 [r] := Kp56.wr W59 (Or.inl (List.mem_of_getElem? (i := 0) rfl))
  show own_Go p e below s _ _ _ (T59.setTop (mkF m 20 #[.val (.ref r), .val .null, .val (.long q2), .second, .val (.ref q3)] []))
  have F64 : Exa Z h59 r "com/example/wache/wache/ListFile$Mark" := (F58.wr W59)
  have F65 : Fld Z h59 r "com/example/wache/wache/ListFile$Mark" "offset" "J" (.long q2) := (F54.other W59 (Or.inr (slot_ne (Or.inr (hw _ (List.mem_of_getElem? (i := 25) rfl))) (Or.inr (hw _ (List.mem_of_getElem? (i := 27) rfl))) (by decide) (t := .long) (t' := (.array .byte)) (by decide) (by decide))))
  refine own_ret0 X59 hx hlk Bd.returns (hb hby own_d_prog_16_method_1_code_20) (by decide) (by decide) ?_
  rw [e59]
  exact ⟨N60, rfl, Kp63, F64, F65, F61⟩
def own_rm_initR_Q (Z : State) (r : Addr) (q1 : Addr) (q2 : Int64) (q3 : Addr) (h0 : Heap) (n0 : Nat) (v : Option Value) (h : Heap) (L : List Loc) : Prop := Fr n0 L ∧ v = none ∧ Keep h0 h [r] ∧ Exa Z h r "com/example/wache/wache/ListFile$Mark" ∧ Fld Z h r "com/example/wache/wache/ListFile$Mark" "offset" "J" (.long q2) ∧ Fld Z h r "com/example/wache/wache/ListFile$Mark" "lastLine" "[B" (.ref q3)
theorem own_rm_initR_ef (m : MethodId) (r : Addr) (q1 : Addr) (q2 : Int64) (q3 : Addr) : entryFrame m #[(.ref r), (.ref q1), (.long q2), (.ref q3)] 5 = mkF m 0 #[.val (.ref r), .val (.ref q1), .val (.long q2), .second, .val (.ref q3)] [] := by first | (simp [entryFrame, mkF, argsToLocals, Value.category]; done) | rfl
set_option maxRecDepth 65536 in
set_option maxHeartbeats 40000000 in
theorem own_rm_initR (l : Launch) (Z : State) (a0 : Array Value) (hw : ∀ d ∈ tables_1, d.before a0 Z = true) (ws : List Jvm.Cond) (r : Addr) (q1 : Addr) (q2 : Int64) (q3 : Addr) (h0 : Heap) (n0 : Nat) (Z0 : n0 ≤ h0.size) (E1 : Exa Z h0 r "com/example/wache/wache/ListFile$Mark") (F1 : Fld Z h0 r "com/example/wache/wache/ListFile$Mark" "fileKey" "Ljava/lang/Object;" .null) (F2 : Fld Z h0 r "com/example/wache/wache/ListFile$Mark" "offset" "J" (.long (0 : Int64))) (F3 : Fld Z h0 r "com/example/wache/wache/ListFile$Mark" "lastLine" "[B" .null) (g1 : n0 ≤ r) :
    MetFree l (⟨"com/example/wache/wache/ListFile$Mark", "<init>", "(Ljava/lang/Object;J[B)V"⟩ : MethodName) (head1 (Jvm.Cond.code (⟨"com/example/wache/wache/ListFile$Mark", "<init>", "(Ljava/lang/Object;J[B)V"⟩ : MethodName) prog_16_method_1_code 5 none :: ws) ({ frames := 2, cells := 0, slots := 0, locals := 24 } : Room)) (fun a U => a = #[(.ref r), (.ref q1), (.long q2), (.ref q3)] ∧ Z.Warmed39 U.vm ∧ U.heap = h0) (fun _ _ _ _ _ => True) (fun _ U o U' => ∃ v L, o = .returned v ∧ own_rm_initR_Q Z r q1 q2 q3 h0 n0 v U'.heap L ∧ FrameEnd U o U' L ({ frames := 2, cells := 0, slots := 0, locals := 24 } : Room).cells ({ frames := 2, cells := 0, slots := 0, locals := 24 } : Room).slots) := by
  refine MetFree.of_bodySF own_pn4 hisR ?_
  intro p e s m args below meth c s₁ Bd hml0 hP hK
  obtain ⟨rfl, hZ, hh⟩ := hP
  have hx := Bd.exec
  have hby := Bd.bytes
  have hml : c.maxLocals = 5 := hml0
  have hlk := BodyLoose.notSynchronized Bd
  have hown : s.vm.findClass "com/example/wache/wache/ListFile$Mark" = some m.cls := findClass_of_methodNamed Bd.named
  have hnm := (name_of_methodNamed Bd.named Bd.method).1
  have X0 : Stand p l e ({ frames := 2, cells := 0, slots := 0, locals := 24 } : Room) s m #[(.ref r), (.ref q1), (.long q2), (.ref q3)] below meth c s₁ [] 0 0 := Stand.of_body Bd
  have e0 : s₁.heap = h0 := by rw [← hh, Bd.state]; rfl
  have N0 := Fr.nil n0
  have Kp0 : Keep h0 h0 [r] := Keep.refl _ _
  show own_Go p e below s (own_rm_initR_Q Z r q1 q2 q3 h0 n0) ({ frames := 2, cells := 0, slots := 0, locals := 24 } : Room).cells ({ frames := 2, cells := 0, slots := 0, locals := 24 } : Room).slots (s₁.setTop (entryFrame m #[(.ref r), (.ref q1), (.long q2), (.ref q3)] 5))
  rw [own_rm_initR_ef]
  show own_Go p e below s _ _ _ (s₁.setTop (mkF m 0 #[.val (.ref r), .val (.ref q1), .val (.long q2), .second, .val (.ref q3)] []))
  refine own_st (fun _ k => XS.aloadN X0.here hx rfl (hb hby own_d_prog_16_method_1_code_0) rfl rfl k) ?_
  show own_Go p e below s _ _ _ (s₁.setTop (mkF m 1 #[.val (.ref r), .val (.ref q1), .val (.long q2), .second, .val (.ref q3)] [(.ref r)]))
  obtain ⟨_, _, ⟨T66, L66, k66, n66⟩, -, X66, ⟨Lc66, hQ66, l66, y66, z66⟩, st66⟩ := X0.specialBack hx (y := (⟨"java/lang/Record", "<init>", "()V"⟩ : MethodName)) rfl hown (mvT hZ (hw _ (List.mem_of_getElem? (i := 14) rfl))) (mvT hZ (hw _ (List.mem_of_getElem? (i := 15) rfl))) (mvT hZ (hw _ (List.mem_of_getElem? (i := 18) rfl))) (by decide) (backOf (W := 0) (own_rm_record l Z a0 hw [] r h0 n0 Z0 ) hZ (hw _ (List.mem_of_getElem? (i := 18) rfl)) (hw _ (List.mem_of_getElem? (i := 17) rfl)) (by decide) (by decide)) (g := (mkF m 1 #[.val (.ref r), .val (.ref q1), .val (.long q2), .second, .val (.ref q3)] [(.ref r)])) rfl (by rw [hml]; rfl) (Steps.refl _) (a := r) (argsL := []) (rest := []) (lenOf own_pd0 rfl) rfl (by show 2 * 0 + _ ≤ _; exact Nat.le_of_eq rfl) (hb hby own_d_prog_16_method_1_code_1) (fun _ _ => ⟨rfl, e0, (by decide : 0 + 0 ≤ _), (by decide : 0 + 0 ≤ _)⟩)
  dsimp only [Pt.U, Pt.locs, Pt.cells, Pt.slots] at X66 l66 y66 z66 st66 hQ66
  subst l66 y66 z66
  obtain ⟨N66q, rfl, eh66⟩ := hQ66
  have N67 := Fr.app N0 N66q
  refine own_tr st66 ?_
  show own_Go p e below s _ _ _ (T66.setTop (mkF m 4 #[.val (.ref r), .val (.ref q1), .val (.long q2), .second, .val (.ref q3)] []))
  refine own_st (fun _ k => XS.aloadN X66.here hx rfl (hb hby own_d_prog_16_method_1_code_4) rfl rfl k) ?_
  show own_Go p e below s _ _ _ (T66.setTop (mkF m 5 #[.val (.ref r), .val (.ref q1), .val (.long q2), .second, .val (.ref q3)] [(.ref r)]))
  refine own_st (fun _ k => XS.aloadN X66.here hx rfl (hb hby own_d_prog_16_method_1_code_5) rfl rfl k) ?_
  show own_Go p e below s _ _ _ (T66.setTop (mkF m 6 #[.val (.ref r), .val (.ref q1), .val (.long q2), .second, .val (.ref q3)] [(.ref q1), (.ref r)]))
  obtain ⟨T68, h68, X68, e68, W68, st68⟩ := putF X66 hx hZ hown (host := "") (Or.inl (hw _ (List.mem_of_getElem? (i := 22) rfl))) Via.refl eh66 F1 E1 (Or.inr ⟨(hw _ (List.mem_of_getElem? (i := 23) rfl)), rfl, hnm⟩) (hw _ (List.mem_of_getElem? (i := 9) rfl)) (ty := (.object "java/lang/Object")) (by decide) rfl rfl (g := (mkF m 6 #[.val (.ref r), .val (.ref q1), .val (.long q2), .second, .val (.ref q3)] [(.ref q1), (.ref r)])) rfl rfl (hb hby own_d_prog_16_method_1_code_6)
  refine own_st st68 ?_
  have N69 := Fr.snoc X68 N67 g1
  have F70 : Fld Z h68 r "com/example/wache/wache/ListFile$Mark" "fileKey" "Ljava/lang/Object;" (.ref q1) := F1.same W68
  have Zs71 : n0 ≤ h68.size := Nat.le_trans Z0 (Nat.le_of_eq W68.size.symm)
  have Kp72 : Keep h0 h68 [r] := Kp0.wr W68 (Or.inl (List.mem_of_getElem? (i := 0) rfl))
  show own_Go p e below s _ _ _ (T68.setTop (mkF m 9 #[.val (.ref r), .val (.ref q1), .val (.long q2), .second, .val (.ref q3)] []))
  refine own_st (fun _ k => XS.aloadN X68.here hx rfl (hb hby own_d_prog_16_method_1_code_9) rfl rfl k) ?_
  show own_Go p e below s _ _ _ (T68.setTop (mkF m 10 #[.val (.ref r), .val (.ref q1), .val (.long q2), .second, .val (.ref q3)] [(.ref r)]))
  refine own_st (fun _ k => XT.lloadN X68.here hx rfl (hb hby own_d_prog_16_method_1_code_10) rfl k) ?_
  show own_Go p e below s _ _ _ (T68.setTop (mkF m 11 #[.val (.ref r), .val (.ref q1), .val (.long q2), .second, .val (.ref q3)] [(.long q2), (.ref r)]))
  have F73 : Fld Z h68 r "com/example/wache/wache/ListFile$Mark" "offset" "J" (.long (0 : Int64)) := (F2.other W68 (Or.inr (slot_ne (Or.inr (hw _ (List.mem_of_getElem? (i := 25) rfl))) (Or.inr (hw _ (List.mem_of_getElem? (i := 23) rfl))) (by decide) (t := .long) (t' := (.object "java/lang/Object")) (by decide) (by decide))))
  have F74 : Exa Z h68 r "com/example/wache/wache/ListFile$Mark" := (E1.wr W68)
  obtain ⟨T75, h75, X75, e75, W75, st75⟩ := putF X68 hx hZ hown (host := "") (Or.inl (hw _ (List.mem_of_getElem? (i := 24) rfl))) Via.refl e68 F73 F74 (Or.inr ⟨(hw _ (List.mem_of_getElem? (i := 25) rfl)), rfl, hnm⟩) (hw _ (List.mem_of_getElem? (i := 9) rfl)) (ty := .long) (by decide) rfl rfl (g := (mkF m 11 #[.val (.ref r), .val (.ref q1), .val (.long q2), .second, .val (.ref q3)] [(.long q2), (.ref r)])) rfl rfl (hb hby own_d_prog_16_method_1_code_11)
  refine own_st st75 ?_
  have N76 := Fr.snoc X75 N69 g1
  have F77 : Fld Z h75 r "com/example/wache/wache/ListFile$Mark" "offset" "J" (.long q2) := F73.same W75
  have Zs78 : n0 ≤ h75.size := Nat.le_trans Zs71 (Nat.le_of_eq W75.size.symm)
  have Kp79 : Keep h0 h75 [r] := Kp72.wr W75 (Or.inl (List.mem_of_getElem? (i := 0) rfl))
  show own_Go p e below s _ _ _ (T75.setTop (mkF m 14 #[.val (.ref r), .val (.ref q1), .val (.long q2), .second, .val (.ref q3)] []))
  refine own_st (fun _ k => XS.aloadN X75.here hx rfl (hb hby own_d_prog_16_method_1_code_14) rfl rfl k) ?_
  show own_Go p e below s _ _ _ (T75.setTop (mkF m 15 #[.val (.ref r), .val (.ref q1), .val (.long q2), .second, .val (.ref q3)] [(.ref r)]))
  refine own_st (fun _ k => XS.aload X75.here hx rfl (hb hby own_d_prog_16_method_1_code_15) rfl rfl k) ?_
  show own_Go p e below s _ _ _ (T75.setTop (mkF m 17 #[.val (.ref r), .val (.ref q1), .val (.long q2), .second, .val (.ref q3)] [(.ref q3), (.ref r)]))
  have F80 : Fld Z h75 r "com/example/wache/wache/ListFile$Mark" "lastLine" "[B" .null := ((F3.other W68 (Or.inr (slot_ne (Or.inr (hw _ (List.mem_of_getElem? (i := 27) rfl))) (Or.inr (hw _ (List.mem_of_getElem? (i := 23) rfl))) (by decide) (t := (.array .byte)) (t' := (.object "java/lang/Object")) (by decide) (by decide)))).other W75 (Or.inr (slot_ne (Or.inr (hw _ (List.mem_of_getElem? (i := 27) rfl))) (Or.inr (hw _ (List.mem_of_getElem? (i := 25) rfl))) (by decide) (t := (.array .byte)) (t' := .long) (by decide) (by decide))))
  have F81 : Exa Z h75 r "com/example/wache/wache/ListFile$Mark" := (F74.wr W75)
  obtain ⟨T82, h82, X82, e82, W82, st82⟩ := putF X75 hx hZ hown (host := "") (Or.inl (hw _ (List.mem_of_getElem? (i := 26) rfl))) Via.refl e75 F80 F81 (Or.inr ⟨(hw _ (List.mem_of_getElem? (i := 27) rfl)), rfl, hnm⟩) (hw _ (List.mem_of_getElem? (i := 9) rfl)) (ty := (.array .byte)) (by decide) rfl rfl (g := (mkF m 17 #[.val (.ref r), .val (.ref q1), .val (.long q2), .second, .val (.ref q3)] [(.ref q3), (.ref r)])) rfl rfl (hb hby own_d_prog_16_method_1_code_17)
  refine own_st st82 ?_
  have N83 := Fr.snoc X82 N76 g1
  have F84 : Fld Z h82 r "com/example/wache/wache/ListFile$Mark" "lastLine" "[B" (.ref q3) := F80.same W82
  have Zs85 : n0 ≤ h82.size := Nat.le_trans Zs78 (Nat.le_of_eq W82.size.symm)
  have Kp86 : Keep h0 h82 [r] := Kp79.wr W82 (Or.inl (List.mem_of_getElem? (i := 0) rfl))
  show own_Go p e below s _ _ _ (T82.setTop (mkF m 20 #[.val (.ref r), .val (.ref q1), .val (.long q2), .second, .val (.ref q3)] []))
  have F87 : Exa Z h82 r "com/example/wache/wache/ListFile$Mark" := (F81.wr W82)
  have F88 : Fld Z h82 r "com/example/wache/wache/ListFile$Mark" "offset" "J" (.long q2) := (F77.other W82 (Or.inr (slot_ne (Or.inr (hw _ (List.mem_of_getElem? (i := 25) rfl))) (Or.inr (hw _ (List.mem_of_getElem? (i := 27) rfl))) (by decide) (t := .long) (t' := (.array .byte)) (by decide) (by decide))))
  refine own_ret0 X82 hx hlk Bd.returns (hb hby own_d_prog_16_method_1_code_20) (by decide) (by decide) ?_
  rw [e82]
  exact ⟨N83, rfl, Kp86, F87, F88, F84⟩
theorem own_d_prog_16_method_2_code_0 : decode prog_16_method_2_code 0 = .ok (.aload_n 0, 1) := by decide +kernel
theorem own_d_prog_16_method_2_code_1 : decode prog_16_method_2_code 1 = .ok (.getfield 13, 3) := by decide +kernel
theorem own_d_prog_16_method_2_code_4 : decode prog_16_method_2_code 4 = .ok (.aload_n 0, 1) := by decide +kernel
theorem own_d_prog_16_method_2_code_5 : decode prog_16_method_2_code 5 = .ok (.getfield 17, 3) := by decide +kernel
theorem own_d_prog_16_method_2_code_8 : decode prog_16_method_2_code 8 = .ok (.arraylength, 1) := by decide +kernel
theorem own_d_prog_16_method_2_code_9 : decode prog_16_method_2_code 9 = .ok (.i2l, 1) := by decide +kernel
theorem own_d_prog_16_method_2_code_10 : decode prog_16_method_2_code 10 = .ok (.lsub, 1) := by decide +kernel
theorem own_d_prog_16_method_2_code_11 : decode prog_16_method_2_code 11 = .ok (.lreturn, 1) := by decide +kernel
theorem own_pn5 : plainFor (⟨"com/example/wache/wache/ListFile$Mark", "lastLineStart", "()J"⟩ : MethodName) = true := by decide +kernel
def own_rm_lls_Q (Z : State) (r : Addr) (q2 : Int64) (q3 : Addr) (k3 : ClassId) (z3 : Int32) (vs3 : List Value) (h0 : Heap) (n0 : Nat) (v : Option Value) (h : Heap) (L : List Loc) : Prop := Fr n0 L ∧ v = some (.long (q2 - (z3.toInt64))) ∧ h = h0
theorem own_rm_lls_ef (m : MethodId) (r : Addr) : entryFrame m #[(.ref r)] 1 = mkF m 0 #[.val (.ref r)] [] := by first | (simp [entryFrame, mkF, argsToLocals, Value.category]; done) | rfl
set_option maxRecDepth 65536 in
set_option maxHeartbeats 40000000 in
theorem own_rm_lls (l : Launch) (Z : State) (a0 : Array Value) (hw : ∀ d ∈ tables_1, d.before a0 Z = true) (ws : List Jvm.Cond) (r : Addr) (q2 : Int64) (q3 : Addr) (k3 : ClassId) (z3 : Int32) (vs3 : List Value) (h0 : Heap) (n0 : Nat) (Z0 : n0 ≤ h0.size) (F2 : Fld Z h0 r "com/example/wache/wache/ListFile$Mark" "offset" "J" (.long q2)) (F3 : Fld Z h0 r "com/example/wache/wache/ListFile$Mark" "lastLine" "[B" (.ref q3)) (V3 : Arv Z h0 q3 k3 .byte z3 vs3 (.int (0 : Int32))) :
    MetFree l (⟨"com/example/wache/wache/ListFile$Mark", "lastLineStart", "()J"⟩ : MethodName) (head1 (Jvm.Cond.code (⟨"com/example/wache/wache/ListFile$Mark", "lastLineStart", "()J"⟩ : MethodName) prog_16_method_2_code 1 (some .long) :: ws) ({ frames := 0, cells := 0, slots := 0, locals := 0 } : Room)) (fun a U => a = #[(.ref r)] ∧ Z.Warmed39 U.vm ∧ U.heap = h0) (fun _ _ _ _ _ => True) (fun _ U o U' => ∃ v L, o = .returned v ∧ own_rm_lls_Q Z r q2 q3 k3 z3 vs3 h0 n0 v U'.heap L ∧ FrameEnd U o U' L ({ frames := 0, cells := 0, slots := 0, locals := 0 } : Room).cells ({ frames := 0, cells := 0, slots := 0, locals := 0 } : Room).slots) := by
  refine MetFree.of_bodySF own_pn5 hisR ?_
  intro p e s m args below meth c s₁ Bd hml0 hP hK
  obtain ⟨rfl, hZ, hh⟩ := hP
  have hx := Bd.exec
  have hby := Bd.bytes
  have hml : c.maxLocals = 1 := hml0
  have hlk := BodyLoose.notSynchronized Bd
  have hown : s.vm.findClass "com/example/wache/wache/ListFile$Mark" = some m.cls := findClass_of_methodNamed Bd.named
  have hnm := (name_of_methodNamed Bd.named Bd.method).1
  have X0 : Stand p l e ({ frames := 0, cells := 0, slots := 0, locals := 0 } : Room) s m #[(.ref r)] below meth c s₁ [] 0 0 := Stand.of_body Bd
  have e0 : s₁.heap = h0 := by rw [← hh, Bd.state]; rfl
  have N0 := Fr.nil n0
  show own_Go p e below s (own_rm_lls_Q Z r q2 q3 k3 z3 vs3 h0 n0) ({ frames := 0, cells := 0, slots := 0, locals := 0 } : Room).cells ({ frames := 0, cells := 0, slots := 0, locals := 0 } : Room).slots (s₁.setTop (entryFrame m #[(.ref r)] 1))
  rw [own_rm_lls_ef]
  show own_Go p e below s _ _ _ (s₁.setTop (mkF m 0 #[.val (.ref r)] []))
  refine own_st (fun _ k => XS.aloadN X0.here hx rfl (hb hby own_d_prog_16_method_2_code_0) rfl rfl k) ?_
  show own_Go p e below s _ _ _ (s₁.setTop (mkF m 1 #[.val (.ref r)] [(.ref r)]))
  obtain ⟨T89, X89, e89, st89⟩ := getF X0 hx hZ hown (host := "") (Or.inl (hw _ (List.mem_of_getElem? (i := 24) rfl))) Via.refl e0 F2 (g := (mkF m 1 #[.val (.ref r)] [(.ref r)])) rfl rfl (hb hby own_d_prog_16_method_2_code_1)
  refine own_st st89 ?_
  show own_Go p e below s _ _ _ (T89.setTop (mkF m 4 #[.val (.ref r)] [(.long q2)]))
  refine own_st (fun _ k => XS.aloadN X89.here hx rfl (hb hby own_d_prog_16_method_2_code_4) rfl rfl k) ?_
  show own_Go p e below s _ _ _ (T89.setTop (mkF m 5 #[.val (.ref r)] [(.ref r), (.long q2)]))
  obtain ⟨T90, X90, e90, st90⟩ := getF X89 hx hZ hown (host := "") (Or.inl (hw _ (List.mem_of_getElem? (i := 26) rfl))) Via.refl e89 F3 (g := (mkF m 5 #[.val (.ref r)] [(.ref r), (.long q2)])) rfl rfl (hb hby own_d_prog_16_method_2_code_5)
  refine own_st st90 ?_
  show own_Go p e below s _ _ _ (T90.setTop (mkF m 8 #[.val (.ref r)] [(.ref q3), (.long q2)]))
  obtain ⟨cl91, Ar91, -, S91, N91, -, -⟩ := id V3
  refine own_st (fun _ k => X90.arraylength hx (by rw [e90]; exact Ar91.1) (State.isArrayOf_alike hZ.alike Ar91.2.1) (g := (mkF m 8 #[.val (.ref r)] [(.ref q3), (.long q2)])) rfl rfl (hb hby own_d_prog_16_method_2_code_8) _ k) ?_
  rw [len_of S91 N91]
  show own_Go p e below s _ _ _ (T90.setTop (mkF m 9 #[.val (.ref r)] [(.int z3), (.long q2)]))
  refine own_st (fun _ k => XT.i2l X90.here hx rfl (hb hby own_d_prog_16_method_2_code_9) rfl k) ?_
  show own_Go p e below s _ _ _ (T90.setTop (mkF m 10 #[.val (.ref r)] [(.long (z3.toInt64)), (.long q2)]))
  refine own_st (fun _ k => XT.lsub X90.here hx rfl (hb hby own_d_prog_16_method_2_code_10) rfl k) ?_
  show own_Go p e below s _ _ _ (T90.setTop (mkF m 11 #[.val (.ref r)] [(.long (q2 - (z3.toInt64)))]))
  refine own_retJ X90 hx hlk Bd.returns (hb hby own_d_prog_16_method_2_code_11) (by decide) (by decide) ?_
  rw [e90]
  exact ⟨N0, rfl, rfl⟩
theorem own_d_prog_16_method_7_code_0 : decode prog_16_method_7_code 0 = .ok (.aload_n 0, 1) := by decide +kernel
theorem own_d_prog_16_method_7_code_1 : decode prog_16_method_7_code 1 = .ok (.getfield 13, 3) := by decide +kernel
theorem own_d_prog_16_method_7_code_4 : decode prog_16_method_7_code 4 = .ok (.lreturn, 1) := by decide +kernel
theorem own_pn6 : plainFor (⟨"com/example/wache/wache/ListFile$Mark", "offset", "()J"⟩ : MethodName) = true := by decide +kernel
def own_rm_offset_Q (Z : State) (r : Addr) (q2 : Int64) (h0 : Heap) (n0 : Nat) (v : Option Value) (h : Heap) (L : List Loc) : Prop := Fr n0 L ∧ v = some (.long q2) ∧ h = h0
theorem own_rm_offset_ef (m : MethodId) (r : Addr) : entryFrame m #[(.ref r)] 1 = mkF m 0 #[.val (.ref r)] [] := by first | (simp [entryFrame, mkF, argsToLocals, Value.category]; done) | rfl
set_option maxRecDepth 65536 in
set_option maxHeartbeats 40000000 in
theorem own_rm_offset (l : Launch) (Z : State) (a0 : Array Value) (hw : ∀ d ∈ tables_1, d.before a0 Z = true) (ws : List Jvm.Cond) (r : Addr) (q2 : Int64) (h0 : Heap) (n0 : Nat) (Z0 : n0 ≤ h0.size) (F2 : Fld Z h0 r "com/example/wache/wache/ListFile$Mark" "offset" "J" (.long q2)) :
    MetFree l (⟨"com/example/wache/wache/ListFile$Mark", "offset", "()J"⟩ : MethodName) (head1 (Jvm.Cond.code (⟨"com/example/wache/wache/ListFile$Mark", "offset", "()J"⟩ : MethodName) prog_16_method_7_code 1 (some .long) :: ws) ({ frames := 0, cells := 0, slots := 0, locals := 0 } : Room)) (fun a U => a = #[(.ref r)] ∧ Z.Warmed39 U.vm ∧ U.heap = h0) (fun _ _ _ _ _ => True) (fun _ U o U' => ∃ v L, o = .returned v ∧ own_rm_offset_Q Z r q2 h0 n0 v U'.heap L ∧ FrameEnd U o U' L ({ frames := 0, cells := 0, slots := 0, locals := 0 } : Room).cells ({ frames := 0, cells := 0, slots := 0, locals := 0 } : Room).slots) := by
  refine MetFree.of_bodySF own_pn6 hisR ?_
  intro p e s m args below meth c s₁ Bd hml0 hP hK
  obtain ⟨rfl, hZ, hh⟩ := hP
  have hx := Bd.exec
  have hby := Bd.bytes
  have hml : c.maxLocals = 1 := hml0
  have hlk := BodyLoose.notSynchronized Bd
  have hown : s.vm.findClass "com/example/wache/wache/ListFile$Mark" = some m.cls := findClass_of_methodNamed Bd.named
  have hnm := (name_of_methodNamed Bd.named Bd.method).1
  have X0 : Stand p l e ({ frames := 0, cells := 0, slots := 0, locals := 0 } : Room) s m #[(.ref r)] below meth c s₁ [] 0 0 := Stand.of_body Bd
  have e0 : s₁.heap = h0 := by rw [← hh, Bd.state]; rfl
  have N0 := Fr.nil n0
  show own_Go p e below s (own_rm_offset_Q Z r q2 h0 n0) ({ frames := 0, cells := 0, slots := 0, locals := 0 } : Room).cells ({ frames := 0, cells := 0, slots := 0, locals := 0 } : Room).slots (s₁.setTop (entryFrame m #[(.ref r)] 1))
  rw [own_rm_offset_ef]
  show own_Go p e below s _ _ _ (s₁.setTop (mkF m 0 #[.val (.ref r)] []))
  refine own_st (fun _ k => XS.aloadN X0.here hx rfl (hb hby own_d_prog_16_method_7_code_0) rfl rfl k) ?_
  show own_Go p e below s _ _ _ (s₁.setTop (mkF m 1 #[.val (.ref r)] [(.ref r)]))
  obtain ⟨T92, X92, e92, st92⟩ := getF X0 hx hZ hown (host := "") (Or.inl (hw _ (List.mem_of_getElem? (i := 24) rfl))) Via.refl e0 F2 (g := (mkF m 1 #[.val (.ref r)] [(.ref r)])) rfl rfl (hb hby own_d_prog_16_method_7_code_1)
  refine own_st st92 ?_
  show own_Go p e below s _ _ _ (T92.setTop (mkF m 4 #[.val (.ref r)] [(.long q2)]))
  refine own_retJ X92 hx hlk Bd.returns (hb hby own_d_prog_16_method_7_code_4) (by decide) (by decide) ?_
  rw [e92]
  exact ⟨N0, rfl, rfl⟩
theorem own_d_prog_16_method_8_code_0 : decode prog_16_method_8_code 0 = .ok (.aload_n 0, 1) := by decide +kernel
theorem own_d_prog_16_method_8_code_1 : decode prog_16_method_8_code 1 = .ok (.getfield 17, 3) := by decide +kernel
theorem own_d_prog_16_method_8_code_4 : decode prog_16_method_8_code 4 = .ok (.areturn, 1) := by decide +kernel
theorem own_pn7 : plainFor (⟨"com/example/wache/wache/ListFile$Mark", "lastLine", "()[B"⟩ : MethodName) = true := by decide +kernel
def own_rm_lastLine_Q (Z : State) (r : Addr) (q3 : Addr) (h0 : Heap) (n0 : Nat) (v : Option Value) (h : Heap) (L : List Loc) : Prop := Fr n0 L ∧ v = some (.ref q3) ∧ h = h0
theorem own_rm_lastLine_ef (m : MethodId) (r : Addr) : entryFrame m #[(.ref r)] 1 = mkF m 0 #[.val (.ref r)] [] := by first | (simp [entryFrame, mkF, argsToLocals, Value.category]; done) | rfl
set_option maxRecDepth 65536 in
set_option maxHeartbeats 40000000 in
theorem own_rm_lastLine (l : Launch) (Z : State) (a0 : Array Value) (hw : ∀ d ∈ tables_1, d.before a0 Z = true) (ws : List Jvm.Cond) (r : Addr) (q3 : Addr) (h0 : Heap) (n0 : Nat) (Z0 : n0 ≤ h0.size) (F3 : Fld Z h0 r "com/example/wache/wache/ListFile$Mark" "lastLine" "[B" (.ref q3)) :
    MetFree l (⟨"com/example/wache/wache/ListFile$Mark", "lastLine", "()[B"⟩ : MethodName) (head1 (Jvm.Cond.code (⟨"com/example/wache/wache/ListFile$Mark", "lastLine", "()[B"⟩ : MethodName) prog_16_method_8_code 1 (some (.array .byte)) :: ws) ({ frames := 0, cells := 0, slots := 0, locals := 0 } : Room)) (fun a U => a = #[(.ref r)] ∧ Z.Warmed39 U.vm ∧ U.heap = h0) (fun _ _ _ _ _ => True) (fun _ U o U' => ∃ v L, o = .returned v ∧ own_rm_lastLine_Q Z r q3 h0 n0 v U'.heap L ∧ FrameEnd U o U' L ({ frames := 0, cells := 0, slots := 0, locals := 0 } : Room).cells ({ frames := 0, cells := 0, slots := 0, locals := 0 } : Room).slots) := by
  refine MetFree.of_bodySF own_pn7 hisR ?_
  intro p e s m args below meth c s₁ Bd hml0 hP hK
  obtain ⟨rfl, hZ, hh⟩ := hP
  have hx := Bd.exec
  have hby := Bd.bytes
  have hml : c.maxLocals = 1 := hml0
  have hlk := BodyLoose.notSynchronized Bd
  have hown : s.vm.findClass "com/example/wache/wache/ListFile$Mark" = some m.cls := findClass_of_methodNamed Bd.named
  have hnm := (name_of_methodNamed Bd.named Bd.method).1
  have X0 : Stand p l e ({ frames := 0, cells := 0, slots := 0, locals := 0 } : Room) s m #[(.ref r)] below meth c s₁ [] 0 0 := Stand.of_body Bd
  have e0 : s₁.heap = h0 := by rw [← hh, Bd.state]; rfl
  have N0 := Fr.nil n0
  show own_Go p e below s (own_rm_lastLine_Q Z r q3 h0 n0) ({ frames := 0, cells := 0, slots := 0, locals := 0 } : Room).cells ({ frames := 0, cells := 0, slots := 0, locals := 0 } : Room).slots (s₁.setTop (entryFrame m #[(.ref r)] 1))
  rw [own_rm_lastLine_ef]
  show own_Go p e below s _ _ _ (s₁.setTop (mkF m 0 #[.val (.ref r)] []))
  refine own_st (fun _ k => XS.aloadN X0.here hx rfl (hb hby own_d_prog_16_method_8_code_0) rfl rfl k) ?_
  show own_Go p e below s _ _ _ (s₁.setTop (mkF m 1 #[.val (.ref r)] [(.ref r)]))
  obtain ⟨T93, X93, e93, st93⟩ := getF X0 hx hZ hown (host := "") (Or.inl (hw _ (List.mem_of_getElem? (i := 26) rfl))) Via.refl e0 F3 (g := (mkF m 1 #[.val (.ref r)] [(.ref r)])) rfl rfl (hb hby own_d_prog_16_method_8_code_1)
  refine own_st st93 ?_
  show own_Go p e below s _ _ _ (T93.setTop (mkF m 4 #[.val (.ref r)] [(.ref q3)]))
  refine own_retA X93 hx hlk Bd.returns rfl (hb hby own_d_prog_16_method_8_code_4) (by decide) (by decide) ?_
  rw [e93]
  exact ⟨N0, rfl, rfl⟩
theorem own_pn8 : plainFor (⟨"com/example/wache/wache/MarkLastLineStartPinLaw", "law", "(JIII)Z"⟩ : MethodName) = true := by decide +kernel
theorem own_pd2 : parseMethodDescriptor "(Ljava/lang/Object;J[B)V" = some ⟨[(.object "java/lang/Object"), .long, (.array .byte)], none⟩ := by decide +kernel
theorem own_pd3 : parseMethodDescriptor "()J" = some ⟨[], some .long⟩ := by decide +kernel
theorem own_pd4 : parseMethodDescriptor "()[B" = some ⟨[], some (.array .byte)⟩ := by decide +kernel
theorem own_pd5 : parseMethodDescriptor "(I)Ljava/lang/Integer;" = some ⟨[.int], some (.object "java/lang/Integer")⟩ := by decide +kernel
def own_law_Q (Z : State) (n0 : Nat) (v : Option Value) (h : Heap) (L : List Loc) : Prop := Fr n0 L ∧ v = some (.int 1)
theorem own_law_ef (m : MethodId) (p1 : Int64) (p2 : Int32) (p3 : Int32) (p4 : Int32) : entryFrame m #[(.long p1), (.int p2), (.int p3), (.int p4)] maxLocals = mkF m 0 #[.val (.long p1), .second, .val (.int p2), .val (.int p3), .val (.int p4), .unset, .unset, .unset, .unset, .unset, .unset, .unset] [] := by first | (simp [entryFrame, mkF, argsToLocals, Value.category, maxLocals]; done) | rfl
set_option maxRecDepth 65536 in
set_option maxHeartbeats 40000000 in
theorem own_law (l : Launch) (Z : State) (a0 : Array Value) (hw : ∀ d ∈ tables_1, d.before a0 Z = true) (ws : List Jvm.Cond) (p1 : Int64) (p2 : Int32) (p3 : Int32) (p4 : Int32) (a_cacheI : Addr) (h0 : Heap) (n0 : Nat) (Z0 : n0 ≤ h0.size) (O0 : Old Z n0 h0) (S_cacheI : Sta Z Z.heap "java/lang/Integer$IntegerCache" "cache" "[Ljava/lang/Integer;" (.ref a_cacheI)) (BxI : own_BoxI Z a_cacheI) (S_high : Sta Z Z.heap "java/lang/Integer$IntegerCache" "high" "I" (.int (127 : Int32))) :
    MetFree l x (head1 (Jvm.Cond.code x code maxLocals ret :: ws) room_1) (fun a U => a = #[(.long p1), (.int p2), (.int p3), (.int p4)] ∧ Z.Warmed39 U.vm ∧ U.heap = h0) (fun _ _ _ _ _ => True) (fun _ U o U' => ∃ v L, o = .returned v ∧ own_law_Q Z n0 v U'.heap L ∧ FrameEnd U o U' L 16 128) := by
  refine MetFree.of_bodySF own_pn8 hisR ?_
  intro p e s m args below meth c s₁ Bd hml0 hP hK
  obtain ⟨rfl, hZ, hh⟩ := hP
  have hx := Bd.exec
  have hby := Bd.bytes
  have hml : c.maxLocals = 12 := hml0
  have hlk := BodyLoose.notSynchronized Bd
  have hown : s.vm.findClass "com/example/wache/wache/MarkLastLineStartPinLaw" = some m.cls := findClass_of_methodNamed Bd.named
  have hnm := (name_of_methodNamed Bd.named Bd.method).1
  have X0 : Stand p l e room_1 s m #[(.long p1), (.int p2), (.int p3), (.int p4)] below meth c s₁ [] 0 0 := Stand.of_body Bd
  have e0 : s₁.heap = h0 := by rw [← hh, Bd.state]; rfl
  have N0 := Fr.nil n0
  show own_Go p e below s (own_law_Q Z n0) 16 128 (s₁.setTop (entryFrame m #[(.long p1), (.int p2), (.int p3), (.int p4)] maxLocals))
  rw [own_law_ef]
  show own_Go p e below s _ _ _ (s₁.setTop (mkF m 0 #[.val (.long p1), .second, .val (.int p2), .val (.int p3), .val (.int p4), .unset, .unset, .unset, .unset, .unset, .unset, .unset] []))
  refine own_st (fun _ k => XS.iloadN X0.here hx rfl (hb hby at_0) rfl k) ?_
  show own_Go p e below s _ _ _ (s₁.setTop (mkF m 1 #[.val (.long p1), .second, .val (.int p2), .val (.int p3), .val (.int p4), .unset, .unset, .unset, .unset, .unset, .unset, .unset] [(.int p2)]))
  refine own_st (fun _ k => XT.iconstV X0.here hx rfl (3 : Int32) (hb hby at_1) (by decide) k) ?_
  show own_Go p e below s _ _ _ (s₁.setTop (mkF m 2 #[.val (.long p1), .second, .val (.int p2), .val (.int p3), .val (.int p4), .unset, .unset, .unset, .unset, .unset, .unset, .unset] [(.int (3 : Int32)), (.int p2)]))
  refine own_st (fun _ k => XS.iand X0.here hx rfl (hb hby at_2) rfl k) ?_
  show own_Go p e below s _ _ _ (s₁.setTop (mkF m 3 #[.val (.long p1), .second, .val (.int p2), .val (.int p3), .val (.int p4), .unset, .unset, .unset, .unset, .unset, .unset, .unset] [(.int (p2 &&& (3 : Int32)))]))
  refine own_st (fun _ k => XS.istore X0.here hx rfl (hb hby at_3) rfl (l' := #[.val (.long p1), .second, .val (.int p2), .val (.int p3), .val (.int p4), .val (.int (p2 &&& (3 : Int32))), .unset, .unset, .unset, .unset, .unset, .unset]) rfl k) ?_
  show own_Go p e below s _ _ _ (s₁.setTop (mkF m 5 #[.val (.long p1), .second, .val (.int p2), .val (.int p3), .val (.int p4), .val (.int (p2 &&& (3 : Int32))), .unset, .unset, .unset, .unset, .unset, .unset] []))
  refine own_st (fun _ k => XS.iload X0.here hx rfl (hb hby at_5) rfl k) ?_
  show own_Go p e below s _ _ _ (s₁.setTop (mkF m 7 #[.val (.long p1), .second, .val (.int p2), .val (.int p3), .val (.int p4), .val (.int (p2 &&& (3 : Int32))), .unset, .unset, .unset, .unset, .unset, .unset] [(.int (p2 &&& (3 : Int32)))]))
  by_cases hc94 : (p2 &&& (3 : Int32)) = 0
  · refine own_st (fun _ k => XS.ifNo X0.here hx rfl (hb hby at_7) rfl (XT.i0_ne_f hc94) k) ?_
    show own_Go p e below s _ _ _ (s₁.setTop (mkF m 10 #[.val (.long p1), .second, .val (.int p2), .val (.int p3), .val (.int p4), .val (.int (p2 &&& (3 : Int32))), .unset, .unset, .unset, .unset, .unset, .unset] []))
    refine own_st (fun _ k => XT.iconstV X0.here hx rfl (0 : Int32) (hb hby at_10) (by decide) k) ?_
    show own_Go p e below s _ _ _ (s₁.setTop (mkF m 11 #[.val (.long p1), .second, .val (.int p2), .val (.int p3), .val (.int p4), .val (.int (p2 &&& (3 : Int32))), .unset, .unset, .unset, .unset, .unset, .unset] [(.int (0 : Int32))]))
    obtain ⟨T95, h95, k95, X95, e95, E95, A95, Ea95, st95⟩ := newPE X0 hx hZ (aty := .byte) (hw _ (List.mem_of_getElem? (i := 0) rfl)) e0 (g := (mkF m 11 #[.val (.long p1), .second, .val (.int p2), .val (.int p3), .val (.int p4), .val (.int (p2 &&& (3 : Int32))), .unset, .unset, .unset, .unset, .unset, .unset] [(.int (0 : Int32))])) rfl (hb hby at_11) rfl (by decide) (cap := 0) (by decide) (by decide) (by decide) (by decide) (ad := "[B") (by decide +kernel)
    obtain ⟨b95, g95⟩ : ∃ z, z = h0.size := ⟨_, rfl⟩
    rw [← g95] at A95 Ea95 st95
    refine own_st st95 ?_
    have Zs96 : n0 ≤ h95.size := Nat.le_trans Z0 E95.1
    have g97 : n0 ≤ b95 := Nat.le_trans Z0 (Nat.le_of_eq g95.symm)
    have F98 : Arv Z h95 b95 k95 .byte (0 : Int32) [] (.int (0 : Int32)) := (Arv.new A95 (by decide)).pad (fun i => own_pad 0 _ i)
    show own_Go p e below s _ _ _ (T95.setTop (mkF m 13 #[.val (.long p1), .second, .val (.int p2), .val (.int p3), .val (.int p4), .val (.int (p2 &&& (3 : Int32))), .unset, .unset, .unset, .unset, .unset, .unset] [(.ref b95)]))
    refine own_st (fun _ k => XS.astore X95.here hx rfl (hb hby at_13) rfl rfl (l' := #[.val (.long p1), .second, .val (.int p2), .val (.int p3), .val (.int p4), .val (.int (p2 &&& (3 : Int32))), .val (.ref b95), .unset, .unset, .unset, .unset, .unset]) rfl k) ?_
    show own_Go p e below s _ _ _ (T95.setTop (mkF m 15 #[.val (.long p1), .second, .val (.int p2), .val (.int p3), .val (.int p4), .val (.int (p2 &&& (3 : Int32))), .val (.ref b95), .unset, .unset, .unset, .unset, .unset] []))
    refine own_st (fun _ k => XS.goto X95.here hx rfl (pc0 := 15) (pc' := 51) rfl (hb hby at_15) (by decide) (by decide) k) ?_
    show own_Go p e below s _ _ _ (T95.setTop (mkF m 51 #[.val (.long p1), .second, .val (.int p2), .val (.int p3), .val (.int p4), .val (.int (p2 &&& (3 : Int32))), .val (.ref b95), .unset, .unset, .unset, .unset, .unset] []))
    refine own_st (fun _ k => XS.aload X95.here hx rfl (hb hby at_51) rfl rfl k) ?_
    show own_Go p e below s _ _ _ (T95.setTop (mkF m 53 #[.val (.long p1), .second, .val (.int p2), .val (.int p3), .val (.int p4), .val (.int (p2 &&& (3 : Int32))), .val (.ref b95), .unset, .unset, .unset, .unset, .unset] [(.ref b95)]))
    obtain ⟨cl99, Ar99, -, S99, N99, -, -⟩ := id F98
    refine own_st (fun _ k => X95.arraylength hx (by rw [e95]; exact Ar99.1) (State.isArrayOf_alike hZ.alike Ar99.2.1) (g := (mkF m 53 #[.val (.long p1), .second, .val (.int p2), .val (.int p3), .val (.int p4), .val (.int (p2 &&& (3 : Int32))), .val (.ref b95), .unset, .unset, .unset, .unset, .unset] [(.ref b95)])) rfl rfl (hb hby at_53) _ k) ?_
    rw [len_of S99 N99]
    show own_Go p e below s _ _ _ (T95.setTop (mkF m 54 #[.val (.long p1), .second, .val (.int p2), .val (.int p3), .val (.int p4), .val (.int (p2 &&& (3 : Int32))), .val (.ref b95), .unset, .unset, .unset, .unset, .unset] [(.int (0 : Int32))]))
    refine own_st (fun _ k => XS.istore X95.here hx rfl (hb hby at_54) rfl (l' := #[.val (.long p1), .second, .val (.int p2), .val (.int p3), .val (.int p4), .val (.int (p2 &&& (3 : Int32))), .val (.ref b95), .val (.int (0 : Int32)), .unset, .unset, .unset, .unset]) rfl k) ?_
    show own_Go p e below s _ _ _ (T95.setTop (mkF m 56 #[.val (.long p1), .second, .val (.int p2), .val (.int p3), .val (.int p4), .val (.int (p2 &&& (3 : Int32))), .val (.ref b95), .val (.int (0 : Int32)), .unset, .unset, .unset, .unset] []))
    refine own_st (fun _ k => XS.iload X95.here hx rfl (hb hby at_56) rfl k) ?_
    show own_Go p e below s _ _ _ (T95.setTop (mkF m 58 #[.val (.long p1), .second, .val (.int p2), .val (.int p3), .val (.int p4), .val (.int (p2 &&& (3 : Int32))), .val (.ref b95), .val (.int (0 : Int32)), .unset, .unset, .unset, .unset] [(.int (0 : Int32))]))
    refine own_st (fun _ k => XS.ifYes X95.here hx rfl (pc0 := 58) (pc' := 81) rfl (hb hby at_58) rfl (XT.i0_le_t (by decide)) (by decide) (by decide) k) ?_
    show own_Go p e below s _ _ _ (T95.setTop (mkF m 81 #[.val (.long p1), .second, .val (.int p2), .val (.int p3), .val (.int p4), .val (.int (p2 &&& (3 : Int32))), .val (.ref b95), .val (.int (0 : Int32)), .unset, .unset, .unset, .unset] []))
    refine own_st (fun _ k => XS.iloadN X95.here hx rfl (hb hby at_81) rfl k) ?_
    show own_Go p e below s _ _ _ (T95.setTop (mkF m 82 #[.val (.long p1), .second, .val (.int p2), .val (.int p3), .val (.int p4), .val (.int (p2 &&& (3 : Int32))), .val (.ref b95), .val (.int (0 : Int32)), .unset, .unset, .unset, .unset] [(.int p3)]))
    refine own_st (fun _ k => XT.iconstV X95.here hx rfl (1 : Int32) (hb hby at_82) (by decide) k) ?_
    show own_Go p e below s _ _ _ (T95.setTop (mkF m 83 #[.val (.long p1), .second, .val (.int p2), .val (.int p3), .val (.int p4), .val (.int (p2 &&& (3 : Int32))), .val (.ref b95), .val (.int (0 : Int32)), .unset, .unset, .unset, .unset] [(.int (1 : Int32)), (.int p3)]))
    refine own_st (fun _ k => XS.iand X95.here hx rfl (hb hby at_83) rfl k) ?_
    show own_Go p e below s _ _ _ (T95.setTop (mkF m 84 #[.val (.long p1), .second, .val (.int p2), .val (.int p3), .val (.int p4), .val (.int (p2 &&& (3 : Int32))), .val (.ref b95), .val (.int (0 : Int32)), .unset, .unset, .unset, .unset] [(.int (p3 &&& (1 : Int32)))]))
    by_cases hc100 : (p3 &&& (1 : Int32)) = 0
    · refine own_st (fun _ k => XS.ifNo X95.here hx rfl (hb hby at_84) rfl (XT.i0_ne_f hc100) k) ?_
      show own_Go p e below s _ _ _ (T95.setTop (mkF m 87 #[.val (.long p1), .second, .val (.int p2), .val (.int p3), .val (.int p4), .val (.int (p2 &&& (3 : Int32))), .val (.ref b95), .val (.int (0 : Int32)), .unset, .unset, .unset, .unset] []))
      refine own_st (fun _ k => XS.aconstNull X95.here hx rfl (hb hby at_87) k) ?_
      show own_Go p e below s _ _ _ (T95.setTop (mkF m 88 #[.val (.long p1), .second, .val (.int p2), .val (.int p3), .val (.int p4), .val (.int (p2 &&& (3 : Int32))), .val (.ref b95), .val (.int (0 : Int32)), .unset, .unset, .unset, .unset] [.null]))
      refine own_st (fun _ k => XS.goto X95.here hx rfl (pc0 := 88) (pc' := 95) rfl (hb hby at_88) (by decide) (by decide) k) ?_
      show own_Go p e below s _ _ _ (T95.setTop (mkF m 95 #[.val (.long p1), .second, .val (.int p2), .val (.int p3), .val (.int p4), .val (.int (p2 &&& (3 : Int32))), .val (.ref b95), .val (.int (0 : Int32)), .unset, .unset, .unset, .unset] [.null]))
      refine own_st (fun _ k => XS.astore X95.here hx rfl (hb hby at_95) rfl rfl (l' := #[.val (.long p1), .second, .val (.int p2), .val (.int p3), .val (.int p4), .val (.int (p2 &&& (3 : Int32))), .val (.ref b95), .val (.int (0 : Int32)), .val .null, .unset, .unset, .unset]) rfl k) ?_
      show own_Go p e below s _ _ _ (T95.setTop (mkF m 97 #[.val (.long p1), .second, .val (.int p2), .val (.int p3), .val (.int p4), .val (.int (p2 &&& (3 : Int32))), .val (.ref b95), .val (.int (0 : Int32)), .val .null, .unset, .unset, .unset] []))
      obtain ⟨T101, h101, X101, e101, E101, A101, D101, -, st101⟩ := newO X95 hx hZ hown (hw _ (List.mem_of_getElem? (i := 8) rfl)) (hw _ (List.mem_of_getElem? (i := 9) rfl)) (hw _ (List.mem_of_getElem? (i := 10) rfl)) e95 (g := (mkF m 97 #[.val (.long p1), .second, .val (.int p2), .val (.int p3), .val (.int p4), .val (.int (p2 &&& (3 : Int32))), .val (.ref b95), .val (.int (0 : Int32)), .val .null, .unset, .unset, .unset] [])) rfl (hb hby at_97) (by decide) (by decide)
      obtain ⟨b101, g101⟩ : ∃ z, z = h95.size := ⟨_, rfl⟩
      rw [← g101] at A101 D101 st101
      refine own_st st101 ?_
      have Zs102 : n0 ≤ h101.size := Nat.le_trans Zs96 E101.1
      have g103 : n0 ≤ b101 := Nat.le_trans Zs96 (Nat.le_of_eq g101.symm)
      have F104 : Fld Z h101 b101 "com/example/wache/wache/ListFile$Mark" "fileKey" "Ljava/lang/Object;" .null := D101 (Or.inr (hw _ (List.mem_of_getElem? (i := 23) rfl))) (ty := (.object "java/lang/Object")) (by decide)
      have F105 : Fld Z h101 b101 "com/example/wache/wache/ListFile$Mark" "offset" "J" (.long (0 : Int64)) := D101 (Or.inr (hw _ (List.mem_of_getElem? (i := 25) rfl))) (ty := .long) (by decide)
      have F106 : Fld Z h101 b101 "com/example/wache/wache/ListFile$Mark" "lastLine" "[B" .null := D101 (Or.inr (hw _ (List.mem_of_getElem? (i := 27) rfl))) (ty := (.array .byte)) (by decide)
      show own_Go p e below s _ _ _ (T101.setTop (mkF m 100 #[.val (.long p1), .second, .val (.int p2), .val (.int p3), .val (.int p4), .val (.int (p2 &&& (3 : Int32))), .val (.ref b95), .val (.int (0 : Int32)), .val .null, .unset, .unset, .unset] [(.ref b101)]))
      refine own_st (fun _ k => XS.dup X101.here hx rfl (hb hby at_100) rfl rfl k) ?_
      show own_Go p e below s _ _ _ (T101.setTop (mkF m 101 #[.val (.long p1), .second, .val (.int p2), .val (.int p3), .val (.int p4), .val (.int (p2 &&& (3 : Int32))), .val (.ref b95), .val (.int (0 : Int32)), .val .null, .unset, .unset, .unset] [(.ref b101), (.ref b101)]))
      refine own_st (fun _ k => XS.aload X101.here hx rfl (hb hby at_101) rfl rfl k) ?_
      show own_Go p e below s _ _ _ (T101.setTop (mkF m 103 #[.val (.long p1), .second, .val (.int p2), .val (.int p3), .val (.int p4), .val (.int (p2 &&& (3 : Int32))), .val (.ref b95), .val (.int (0 : Int32)), .val .null, .unset, .unset, .unset] [.null, (.ref b101), (.ref b101)]))
      refine own_st (fun _ k => XT.lloadN X101.here hx rfl (hb hby at_103) rfl k) ?_
      show own_Go p e below s _ _ _ (T101.setTop (mkF m 104 #[.val (.long p1), .second, .val (.int p2), .val (.int p3), .val (.int p4), .val (.int (p2 &&& (3 : Int32))), .val (.ref b95), .val (.int (0 : Int32)), .val .null, .unset, .unset, .unset] [(.long p1), .null, (.ref b101), (.ref b101)]))
      refine own_st (fun _ k => XS.aload X101.here hx rfl (hb hby at_104) rfl rfl k) ?_
      show own_Go p e below s _ _ _ (T101.setTop (mkF m 106 #[.val (.long p1), .second, .val (.int p2), .val (.int p3), .val (.int p4), .val (.int (p2 &&& (3 : Int32))), .val (.ref b95), .val (.int (0 : Int32)), .val .null, .unset, .unset, .unset] [(.ref b95), (.long p1), .null, (.ref b101), (.ref b101)]))
      obtain ⟨_, _, ⟨T107, L107, k107, n107⟩, -, X107, ⟨Lc107, hQ107, l107, y107, z107⟩, st107⟩ := X101.specialBack hx (y := (⟨"com/example/wache/wache/ListFile$Mark", "<init>", "(Ljava/lang/Object;J[B)V"⟩ : MethodName)) rfl hown (mvT hZ (hw _ (List.mem_of_getElem? (i := 11) rfl))) (mvT hZ (hw _ (List.mem_of_getElem? (i := 12) rfl))) (mvT hZ (hw _ (List.mem_of_getElem? (i := 13) rfl))) (by decide) (backOf (W := 1) (own_rm_initN l Z a0 hw [] b101 p1 b95 h101 n0 Zs102 A101 F104 F105 F106 g103) hZ (hw _ (List.mem_of_getElem? (i := 13) rfl)) (hw _ (List.mem_of_getElem? (i := 10) rfl)) (by decide) (by decide)) (g := (mkF m 106 #[.val (.long p1), .second, .val (.int p2), .val (.int p3), .val (.int p4), .val (.int (p2 &&& (3 : Int32))), .val (.ref b95), .val (.int (0 : Int32)), .val .null, .unset, .unset, .unset] [(.ref b95), (.long p1), .null, (.ref b101), (.ref b101)])) rfl (by rw [hml]; rfl) (Steps.refl _) (a := b101) (argsL := [.null, (.long p1), (.ref b95)]) (rest := [(.ref b101)]) (lenOf own_pd2 rfl) rfl (by show 2 * 0 + _ ≤ _; exact Nat.le_of_eq rfl) (hb hby at_106) (fun _ _ => ⟨rfl, e101, (by decide : 2 + 0 ≤ _), (by decide : 3 + 0 ≤ _)⟩)
      dsimp only [Pt.U, Pt.locs, Pt.cells, Pt.slots] at X107 l107 y107 z107 st107 hQ107
      subst l107 y107 z107
      obtain ⟨N107q, rfl, K107, q108, q109, q110⟩ := hQ107
      have N111 := Fr.app N0 N107q
      refine own_tr st107 ?_
      have Zs112 : n0 ≤ T107.heap.size := Nat.le_trans Zs102 K107.1
      show own_Go p e below s _ _ _ (T107.setTop (mkF m 109 #[.val (.long p1), .second, .val (.int p2), .val (.int p3), .val (.int p4), .val (.int (p2 &&& (3 : Int32))), .val (.ref b95), .val (.int (0 : Int32)), .val .null, .unset, .unset, .unset] [(.ref b101)]))
      refine own_st (fun _ k => XS.astore X107.here hx rfl (hb hby at_109) rfl rfl (l' := #[.val (.long p1), .second, .val (.int p2), .val (.int p3), .val (.int p4), .val (.int (p2 &&& (3 : Int32))), .val (.ref b95), .val (.int (0 : Int32)), .val .null, .val (.ref b101), .unset, .unset]) rfl k) ?_
      show own_Go p e below s _ _ _ (T107.setTop (mkF m 111 #[.val (.long p1), .second, .val (.int p2), .val (.int p3), .val (.int p4), .val (.int (p2 &&& (3 : Int32))), .val (.ref b95), .val (.int (0 : Int32)), .val .null, .val (.ref b101), .unset, .unset] []))
      refine own_st (fun _ k => XS.aload X107.here hx rfl (hb hby at_111) rfl rfl k) ?_
      show own_Go p e below s _ _ _ (T107.setTop (mkF m 113 #[.val (.long p1), .second, .val (.int p2), .val (.int p3), .val (.int p4), .val (.int (p2 &&& (3 : Int32))), .val (.ref b95), .val (.int (0 : Int32)), .val .null, .val (.ref b101), .unset, .unset] [(.ref b101)]))
      have ne114 : b95 ≠ b101 := Nat.ne_of_lt (Nat.lt_of_lt_of_le A95.lt (Nat.le_of_eq g101.symm))
      have F115 : Arv Z T107.heap b95 k95 .byte (0 : Int32) [] (.int (0 : Int32)) := ((F98.ext E101).keep K107 (ninS ne114 nin0))
      obtain ⟨cq113, kq113, q113a, q113b, q113c⟩ := isOf hZ rfl q108
      obtain ⟨_, _, ⟨T113, L113, k113, n113⟩, -, X113, ⟨Lc113, hQ113, l113, y113, z113⟩, st113⟩ := X107.virtualBack hx (y := (⟨"com/example/wache/wache/ListFile$Mark", "lastLineStart", "()J"⟩ : MethodName)) (z := (⟨"com/example/wache/wache/ListFile$Mark", "lastLineStart", "()J"⟩ : MethodName)) hown (mvT hZ (hw _ (List.mem_of_getElem? (i := 28) rfl))) (mvT hZ (hw _ (List.mem_of_getElem? (i := 29) rfl))) (notFace_of_selects (args := #[]) (mvT hZ (hw _ (List.mem_of_getElem? (i := 31) rfl)))) (mvT hZ (hw _ (List.mem_of_getElem? (i := 31) rfl))) (mvT hZ (hw _ (List.mem_of_getElem? (i := 30) rfl))) (by decide) (backOf (W := 0) (own_rm_lls l Z a0 hw [] b101 p1 b95 k95 (0 : Int32) [] T107.heap n0 Zs112 q109 q110 F115) hZ (hw _ (List.mem_of_getElem? (i := 32) rfl)) (hw _ (List.mem_of_getElem? (i := 10) rfl)) (by decide) (by decide)) q113a q113c (g := (mkF m 113 #[.val (.long p1), .second, .val (.int p2), .val (.int p3), .val (.int p4), .val (.int (p2 &&& (3 : Int32))), .val (.ref b95), .val (.int (0 : Int32)), .val .null, .val (.ref b101), .unset, .unset] [(.ref b101)])) rfl (by rw [hml]; rfl) (Steps.refl _) (argsL := []) (rest := []) (lenOf own_pd3 rfl) rfl (by show 2 * 0 + _ ≤ _; exact Nat.le_of_eq rfl) (hb hby at_113) (fun _ _ => ⟨rfl, rfl, (by decide : 2 + 0 ≤ _), (by decide : 3 + 0 ≤ _)⟩)
      dsimp only [Pt.U, Pt.locs, Pt.cells, Pt.slots] at X113 l113 y113 z113 st113 hQ113
      subst l113 y113 z113
      obtain ⟨N113q, rfl, eh113⟩ := hQ113
      have N116 := Fr.app N111 N113q
      refine own_tr st113 ?_
      show own_Go p e below s _ _ _ (T113.setTop (mkF m 116 #[.val (.long p1), .second, .val (.int p2), .val (.int p3), .val (.int p4), .val (.int (p2 &&& (3 : Int32))), .val (.ref b95), .val (.int (0 : Int32)), .val .null, .val (.ref b101), .unset, .unset] [(.long (p1 - ((0 : Int32).toInt64)))]))
      refine own_st (fun _ k => XT.lstore X113.here hx rfl (hb hby at_116) rfl (l' := #[.val (.long p1), .second, .val (.int p2), .val (.int p3), .val (.int p4), .val (.int (p2 &&& (3 : Int32))), .val (.ref b95), .val (.int (0 : Int32)), .val .null, .val (.ref b101), .val (.long (p1 - ((0 : Int32).toInt64))), .second]) rfl k) ?_
      show own_Go p e below s _ _ _ (T113.setTop (mkF m 118 #[.val (.long p1), .second, .val (.int p2), .val (.int p3), .val (.int p4), .val (.int (p2 &&& (3 : Int32))), .val (.ref b95), .val (.int (0 : Int32)), .val .null, .val (.ref b101), .val (.long (p1 - ((0 : Int32).toInt64))), .second] []))
      refine own_st (fun _ k => XT.lload X113.here hx rfl (hb hby at_118) rfl k) ?_
      show own_Go p e below s _ _ _ (T113.setTop (mkF m 120 #[.val (.long p1), .second, .val (.int p2), .val (.int p3), .val (.int p4), .val (.int (p2 &&& (3 : Int32))), .val (.ref b95), .val (.int (0 : Int32)), .val .null, .val (.ref b101), .val (.long (p1 - ((0 : Int32).toInt64))), .second] [(.long (p1 - ((0 : Int32).toInt64)))]))
      refine own_st (fun _ k => XS.iload X113.here hx rfl (hb hby at_120) rfl k) ?_
      show own_Go p e below s _ _ _ (T113.setTop (mkF m 122 #[.val (.long p1), .second, .val (.int p2), .val (.int p3), .val (.int p4), .val (.int (p2 &&& (3 : Int32))), .val (.ref b95), .val (.int (0 : Int32)), .val .null, .val (.ref b101), .val (.long (p1 - ((0 : Int32).toInt64))), .second] [(.int (0 : Int32)), (.long (p1 - ((0 : Int32).toInt64)))]))
      refine own_st (fun _ k => XT.i2l X113.here hx rfl (hb hby at_122) rfl k) ?_
      show own_Go p e below s _ _ _ (T113.setTop (mkF m 123 #[.val (.long p1), .second, .val (.int p2), .val (.int p3), .val (.int p4), .val (.int (p2 &&& (3 : Int32))), .val (.ref b95), .val (.int (0 : Int32)), .val .null, .val (.ref b101), .val (.long (p1 - ((0 : Int32).toInt64))), .second] [(.long ((0 : Int32).toInt64)), (.long (p1 - ((0 : Int32).toInt64)))]))
      refine own_st (fun _ k => XT.ladd X113.here hx rfl (hb hby at_123) rfl k) ?_
      show own_Go p e below s _ _ _ (T113.setTop (mkF m 124 #[.val (.long p1), .second, .val (.int p2), .val (.int p3), .val (.int p4), .val (.int (p2 &&& (3 : Int32))), .val (.ref b95), .val (.int (0 : Int32)), .val .null, .val (.ref b101), .val (.long (p1 - ((0 : Int32).toInt64))), .second] [(.long ((p1 - ((0 : Int32).toInt64)) + ((0 : Int32).toInt64)))]))
      refine own_st (fun _ k => XT.lloadN X113.here hx rfl (hb hby at_124) rfl k) ?_
      show own_Go p e below s _ _ _ (T113.setTop (mkF m 125 #[.val (.long p1), .second, .val (.int p2), .val (.int p3), .val (.int p4), .val (.int (p2 &&& (3 : Int32))), .val (.ref b95), .val (.int (0 : Int32)), .val .null, .val (.ref b101), .val (.long (p1 - ((0 : Int32).toInt64))), .second] [(.long p1), (.long ((p1 - ((0 : Int32).toInt64)) + ((0 : Int32).toInt64)))]))
      refine own_st (fun _ k => XT.lcmp X113.here hx rfl (hb hby at_125) rfl k) ?_
      show own_Go p e below s _ _ _ (T113.setTop (mkF m 126 #[.val (.long p1), .second, .val (.int p2), .val (.int p3), .val (.int p4), .val (.int (p2 &&& (3 : Int32))), .val (.ref b95), .val (.int (0 : Int32)), .val .null, .val (.ref b101), .val (.long (p1 - ((0 : Int32).toInt64))), .second] [(.int (XT.cmpL ((p1 - ((0 : Int32).toInt64)) + ((0 : Int32).toInt64)) p1))]))
      refine own_st (fun _ k => XS.ifNo X113.here hx rfl (hb hby at_126) rfl (XT.ll_ne_f (by simp)) k) ?_
      show own_Go p e below s _ _ _ (T113.setTop (mkF m 129 #[.val (.long p1), .second, .val (.int p2), .val (.int p3), .val (.int p4), .val (.int (p2 &&& (3 : Int32))), .val (.ref b95), .val (.int (0 : Int32)), .val .null, .val (.ref b101), .val (.long (p1 - ((0 : Int32).toInt64))), .second] []))
      refine own_st (fun _ k => XS.aload X113.here hx rfl (hb hby at_129) rfl rfl k) ?_
      show own_Go p e below s _ _ _ (T113.setTop (mkF m 131 #[.val (.long p1), .second, .val (.int p2), .val (.int p3), .val (.int p4), .val (.int (p2 &&& (3 : Int32))), .val (.ref b95), .val (.int (0 : Int32)), .val .null, .val (.ref b101), .val (.long (p1 - ((0 : Int32).toInt64))), .second] [(.ref b101)]))
      obtain ⟨cq117, kq117, q117a, q117b, q117c⟩ := isOf hZ eh113 q108
      obtain ⟨_, _, ⟨T117, L117, k117, n117⟩, -, X117, ⟨Lc117, hQ117, l117, y117, z117⟩, st117⟩ := X113.virtualBack hx (y := (⟨"com/example/wache/wache/ListFile$Mark", "offset", "()J"⟩ : MethodName)) (z := (⟨"com/example/wache/wache/ListFile$Mark", "offset", "()J"⟩ : MethodName)) hown (mvT hZ (hw _ (List.mem_of_getElem? (i := 33) rfl))) (mvT hZ (hw _ (List.mem_of_getElem? (i := 34) rfl))) (notFace_of_selects (args := #[]) (mvT hZ (hw _ (List.mem_of_getElem? (i := 36) rfl)))) (mvT hZ (hw _ (List.mem_of_getElem? (i := 36) rfl))) (mvT hZ (hw _ (List.mem_of_getElem? (i := 35) rfl))) (by decide) (backOf (W := 0) (own_rm_offset l Z a0 hw [] b101 p1 T107.heap n0 Zs112 q109) hZ (hw _ (List.mem_of_getElem? (i := 37) rfl)) (hw _ (List.mem_of_getElem? (i := 10) rfl)) (by decide) (by decide)) q117a q117c (g := (mkF m 131 #[.val (.long p1), .second, .val (.int p2), .val (.int p3), .val (.int p4), .val (.int (p2 &&& (3 : Int32))), .val (.ref b95), .val (.int (0 : Int32)), .val .null, .val (.ref b101), .val (.long (p1 - ((0 : Int32).toInt64))), .second] [(.ref b101)])) rfl (by rw [hml]; rfl) (Steps.refl _) (argsL := []) (rest := []) (lenOf own_pd3 rfl) rfl (by show 2 * 0 + _ ≤ _; exact Nat.le_of_eq rfl) (hb hby at_131) (fun _ _ => ⟨rfl, eh113, (by decide : 2 + 0 ≤ _), (by decide : 3 + 0 ≤ _)⟩)
      dsimp only [Pt.U, Pt.locs, Pt.cells, Pt.slots] at X117 l117 y117 z117 st117 hQ117
      subst l117 y117 z117
      obtain ⟨N117q, rfl, eh117⟩ := hQ117
      have N118 := Fr.app N116 N117q
      refine own_tr st117 ?_
      show own_Go p e below s _ _ _ (T117.setTop (mkF m 134 #[.val (.long p1), .second, .val (.int p2), .val (.int p3), .val (.int p4), .val (.int (p2 &&& (3 : Int32))), .val (.ref b95), .val (.int (0 : Int32)), .val .null, .val (.ref b101), .val (.long (p1 - ((0 : Int32).toInt64))), .second] [(.long p1)]))
      refine own_st (fun _ k => XT.lloadN X117.here hx rfl (hb hby at_134) rfl k) ?_
      show own_Go p e below s _ _ _ (T117.setTop (mkF m 135 #[.val (.long p1), .second, .val (.int p2), .val (.int p3), .val (.int p4), .val (.int (p2 &&& (3 : Int32))), .val (.ref b95), .val (.int (0 : Int32)), .val .null, .val (.ref b101), .val (.long (p1 - ((0 : Int32).toInt64))), .second] [(.long p1), (.long p1)]))
      refine own_st (fun _ k => XT.lcmp X117.here hx rfl (hb hby at_135) rfl k) ?_
      show own_Go p e below s _ _ _ (T117.setTop (mkF m 136 #[.val (.long p1), .second, .val (.int p2), .val (.int p3), .val (.int p4), .val (.int (p2 &&& (3 : Int32))), .val (.ref b95), .val (.int (0 : Int32)), .val .null, .val (.ref b101), .val (.long (p1 - ((0 : Int32).toInt64))), .second] [(.int (XT.cmpL p1 p1))]))
      refine own_st (fun _ k => XS.ifNo X117.here hx rfl (hb hby at_136) rfl (XT.ll_ne_f rfl) k) ?_
      show own_Go p e below s _ _ _ (T117.setTop (mkF m 139 #[.val (.long p1), .second, .val (.int p2), .val (.int p3), .val (.int p4), .val (.int (p2 &&& (3 : Int32))), .val (.ref b95), .val (.int (0 : Int32)), .val .null, .val (.ref b101), .val (.long (p1 - ((0 : Int32).toInt64))), .second] []))
      refine own_st (fun _ k => XS.aload X117.here hx rfl (hb hby at_139) rfl rfl k) ?_
      show own_Go p e below s _ _ _ (T117.setTop (mkF m 141 #[.val (.long p1), .second, .val (.int p2), .val (.int p3), .val (.int p4), .val (.int (p2 &&& (3 : Int32))), .val (.ref b95), .val (.int (0 : Int32)), .val .null, .val (.ref b101), .val (.long (p1 - ((0 : Int32).toInt64))), .second] [(.ref b101)]))
      obtain ⟨cq119, kq119, q119a, q119b, q119c⟩ := isOf hZ eh117 q108
      obtain ⟨_, _, ⟨T119, L119, k119, n119⟩, -, X119, ⟨Lc119, hQ119, l119, y119, z119⟩, st119⟩ := X117.virtualBack hx (y := (⟨"com/example/wache/wache/ListFile$Mark", "lastLine", "()[B"⟩ : MethodName)) (z := (⟨"com/example/wache/wache/ListFile$Mark", "lastLine", "()[B"⟩ : MethodName)) hown (mvT hZ (hw _ (List.mem_of_getElem? (i := 38) rfl))) (mvT hZ (hw _ (List.mem_of_getElem? (i := 39) rfl))) (notFace_of_selects (args := #[]) (mvT hZ (hw _ (List.mem_of_getElem? (i := 41) rfl)))) (mvT hZ (hw _ (List.mem_of_getElem? (i := 41) rfl))) (mvT hZ (hw _ (List.mem_of_getElem? (i := 40) rfl))) (by decide) (backOf (W := 0) (own_rm_lastLine l Z a0 hw [] b101 b95 T107.heap n0 Zs112 q110) hZ (hw _ (List.mem_of_getElem? (i := 42) rfl)) (hw _ (List.mem_of_getElem? (i := 10) rfl)) (by decide) (by decide)) q119a q119c (g := (mkF m 141 #[.val (.long p1), .second, .val (.int p2), .val (.int p3), .val (.int p4), .val (.int (p2 &&& (3 : Int32))), .val (.ref b95), .val (.int (0 : Int32)), .val .null, .val (.ref b101), .val (.long (p1 - ((0 : Int32).toInt64))), .second] [(.ref b101)])) rfl (by rw [hml]; rfl) (Steps.refl _) (argsL := []) (rest := []) (lenOf own_pd4 rfl) rfl (by show 2 * 0 + _ ≤ _; exact Nat.le_of_eq rfl) (hb hby at_141) (fun _ _ => ⟨rfl, eh117, (by decide : 2 + 0 ≤ _), (by decide : 3 + 0 ≤ _)⟩)
      dsimp only [Pt.U, Pt.locs, Pt.cells, Pt.slots] at X119 l119 y119 z119 st119 hQ119
      subst l119 y119 z119
      obtain ⟨N119q, rfl, eh119⟩ := hQ119
      have N120 := Fr.app N118 N119q
      refine own_tr st119 ?_
      show own_Go p e below s _ _ _ (T119.setTop (mkF m 144 #[.val (.long p1), .second, .val (.int p2), .val (.int p3), .val (.int p4), .val (.int (p2 &&& (3 : Int32))), .val (.ref b95), .val (.int (0 : Int32)), .val .null, .val (.ref b101), .val (.long (p1 - ((0 : Int32).toInt64))), .second] [(.ref b95)]))
      refine own_st (fun _ k => XS.aload X119.here hx rfl (hb hby at_144) rfl rfl k) ?_
      show own_Go p e below s _ _ _ (T119.setTop (mkF m 146 #[.val (.long p1), .second, .val (.int p2), .val (.int p3), .val (.int p4), .val (.int (p2 &&& (3 : Int32))), .val (.ref b95), .val (.int (0 : Int32)), .val .null, .val (.ref b101), .val (.long (p1 - ((0 : Int32).toInt64))), .second] [(.ref b95), (.ref b95)]))
      refine own_st (fun _ k => XT.acmpNo X119.here hx rfl (hb hby at_146) rfl rfl rfl (XT.aa_ne_f (congrArg Value.ref rfl)) k) ?_
      show own_Go p e below s _ _ _ (T119.setTop (mkF m 149 #[.val (.long p1), .second, .val (.int p2), .val (.int p3), .val (.int p4), .val (.int (p2 &&& (3 : Int32))), .val (.ref b95), .val (.int (0 : Int32)), .val .null, .val (.ref b101), .val (.long (p1 - ((0 : Int32).toInt64))), .second] []))
      refine own_st (fun _ k => XT.iconstV X119.here hx rfl (1 : Int32) (hb hby at_149) (by decide) k) ?_
      show own_Go p e below s _ _ _ (T119.setTop (mkF m 150 #[.val (.long p1), .second, .val (.int p2), .val (.int p3), .val (.int p4), .val (.int (p2 &&& (3 : Int32))), .val (.ref b95), .val (.int (0 : Int32)), .val .null, .val (.ref b101), .val (.long (p1 - ((0 : Int32).toInt64))), .second] [(.int (1 : Int32))]))
      refine own_st (fun _ k => XS.goto X119.here hx rfl (pc0 := 150) (pc' := 154) rfl (hb hby at_150) (by decide) (by decide) k) ?_
      show own_Go p e below s _ _ _ (T119.setTop (mkF m 154 #[.val (.long p1), .second, .val (.int p2), .val (.int p3), .val (.int p4), .val (.int (p2 &&& (3 : Int32))), .val (.ref b95), .val (.int (0 : Int32)), .val .null, .val (.ref b101), .val (.long (p1 - ((0 : Int32).toInt64))), .second] [(.int (1 : Int32))]))
      refine own_retN X119 hx hlk Bd.returns (t := .boolean) (z' := (1 : Int32)) (by simp) (by decide) (hb hby at_154) (by decide) (by decide) ?_
      rw [eh119]
      exact ⟨N120, rfl⟩
    · refine own_st (fun _ k => XS.ifYes X95.here hx rfl (pc0 := 84) (pc' := 91) rfl (hb hby at_84) rfl (XT.i0_ne_t hc100) (by decide) (by decide) k) ?_
      show own_Go p e below s _ _ _ (T95.setTop (mkF m 91 #[.val (.long p1), .second, .val (.int p2), .val (.int p3), .val (.int p4), .val (.int (p2 &&& (3 : Int32))), .val (.ref b95), .val (.int (0 : Int32)), .unset, .unset, .unset, .unset] []))
      refine own_st (fun _ k => XS.iloadN X95.here hx rfl (hb hby at_91) rfl k) ?_
      show own_Go p e below s _ _ _ (T95.setTop (mkF m 92 #[.val (.long p1), .second, .val (.int p2), .val (.int p3), .val (.int p4), .val (.int (p2 &&& (3 : Int32))), .val (.ref b95), .val (.int (0 : Int32)), .unset, .unset, .unset, .unset] [(.int p3)]))
      have O122 : Old Z n0 h95 := (O0.ext E95)
      obtain ⟨_, _, ⟨T121, L121, k121, n121⟩, -, X121, ⟨Lc121, hQ121, l121, y121, z121⟩, st121⟩ := Jvm.LawKit.callS X95 hx (y := (⟨"java/lang/Integer", "valueOf", "(I)Ljava/lang/Integer;"⟩ : MethodName)) hown (mvT hZ (hw _ (List.mem_of_getElem? (i := 1) rfl))) (mvT hZ (hw _ (List.mem_of_getElem? (i := 2) rfl))) (mvT hZ (hw _ (List.mem_of_getElem? (i := 3) rfl))) (mvT hZ (hw _ (List.mem_of_getElem? (i := 4) rfl))) (by decide) (backOf (W := 0) (own_rm_valueOfI l Z a0 hw [] p3 a_cacheI h95 n0 Zs96 O122 S_cacheI BxI S_high) hZ (hw _ (List.mem_of_getElem? (i := 4) rfl)) (hw _ (List.mem_of_getElem? (i := 3) rfl)) (by decide) (by decide)) (g := (mkF m 92 #[.val (.long p1), .second, .val (.int p2), .val (.int p3), .val (.int p4), .val (.int (p2 &&& (3 : Int32))), .val (.ref b95), .val (.int (0 : Int32)), .unset, .unset, .unset, .unset] [(.int p3)])) rfl (by rw [hml]; rfl) (argsL := [(.int p3)]) (rest := []) (lenOf own_pd5 rfl) rfl (by show 2 * 0 + _ ≤ _; exact Nat.le_of_eq rfl) (hb hby at_92) (fun _ _ => ⟨rfl, e95, (by decide : 1 + 1 ≤ _), (by decide : 0 + 1 ≤ _)⟩)
      dsimp only [Pt.U, Pt.locs, Pt.cells, Pt.slots] at X121 l121 y121 z121 st121 hQ121
      subst l121 y121 z121
      obtain ⟨x123, N121q, rfl, K121, q124, q125⟩ := hQ121
      have N126 := Fr.app N0 N121q
      refine own_st st121 ?_
      have Zs127 : n0 ≤ T121.heap.size := Nat.le_trans Zs96 K121.1
      show own_Go p e below s _ _ _ (T121.setTop (mkF m 95 #[.val (.long p1), .second, .val (.int p2), .val (.int p3), .val (.int p4), .val (.int (p2 &&& (3 : Int32))), .val (.ref b95), .val (.int (0 : Int32)), .unset, .unset, .unset, .unset] [(.ref x123)]))
      refine own_st (fun _ k => XS.astore X121.here hx rfl (hb hby at_95) rfl rfl (l' := #[.val (.long p1), .second, .val (.int p2), .val (.int p3), .val (.int p4), .val (.int (p2 &&& (3 : Int32))), .val (.ref b95), .val (.int (0 : Int32)), .val (.ref x123), .unset, .unset, .unset]) rfl k) ?_
      show own_Go p e below s _ _ _ (T121.setTop (mkF m 97 #[.val (.long p1), .second, .val (.int p2), .val (.int p3), .val (.int p4), .val (.int (p2 &&& (3 : Int32))), .val (.ref b95), .val (.int (0 : Int32)), .val (.ref x123), .unset, .unset, .unset] []))
      obtain ⟨T128, h128, X128, e128, E128, A128, D128, -, st128⟩ := newO X121 hx hZ hown (hw _ (List.mem_of_getElem? (i := 8) rfl)) (hw _ (List.mem_of_getElem? (i := 9) rfl)) (hw _ (List.mem_of_getElem? (i := 10) rfl)) rfl (g := (mkF m 97 #[.val (.long p1), .second, .val (.int p2), .val (.int p3), .val (.int p4), .val (.int (p2 &&& (3 : Int32))), .val (.ref b95), .val (.int (0 : Int32)), .val (.ref x123), .unset, .unset, .unset] [])) rfl (hb hby at_97) (by decide) (by decide)
      obtain ⟨b128, g128⟩ : ∃ z, z = T121.heap.size := ⟨_, rfl⟩
      rw [← g128] at A128 D128 st128
      refine own_st st128 ?_
      have Zs129 : n0 ≤ h128.size := Nat.le_trans Zs127 E128.1
      have g130 : n0 ≤ b128 := Nat.le_trans Zs127 (Nat.le_of_eq g128.symm)
      have F131 : Fld Z h128 b128 "com/example/wache/wache/ListFile$Mark" "fileKey" "Ljava/lang/Object;" .null := D128 (Or.inr (hw _ (List.mem_of_getElem? (i := 23) rfl))) (ty := (.object "java/lang/Object")) (by decide)
      have F132 : Fld Z h128 b128 "com/example/wache/wache/ListFile$Mark" "offset" "J" (.long (0 : Int64)) := D128 (Or.inr (hw _ (List.mem_of_getElem? (i := 25) rfl))) (ty := .long) (by decide)
      have F133 : Fld Z h128 b128 "com/example/wache/wache/ListFile$Mark" "lastLine" "[B" .null := D128 (Or.inr (hw _ (List.mem_of_getElem? (i := 27) rfl))) (ty := (.array .byte)) (by decide)
      show own_Go p e below s _ _ _ (T128.setTop (mkF m 100 #[.val (.long p1), .second, .val (.int p2), .val (.int p3), .val (.int p4), .val (.int (p2 &&& (3 : Int32))), .val (.ref b95), .val (.int (0 : Int32)), .val (.ref x123), .unset, .unset, .unset] [(.ref b128)]))
      refine own_st (fun _ k => XS.dup X128.here hx rfl (hb hby at_100) rfl rfl k) ?_
      show own_Go p e below s _ _ _ (T128.setTop (mkF m 101 #[.val (.long p1), .second, .val (.int p2), .val (.int p3), .val (.int p4), .val (.int (p2 &&& (3 : Int32))), .val (.ref b95), .val (.int (0 : Int32)), .val (.ref x123), .unset, .unset, .unset] [(.ref b128), (.ref b128)]))
      refine own_st (fun _ k => XS.aload X128.here hx rfl (hb hby at_101) rfl rfl k) ?_
      show own_Go p e below s _ _ _ (T128.setTop (mkF m 103 #[.val (.long p1), .second, .val (.int p2), .val (.int p3), .val (.int p4), .val (.int (p2 &&& (3 : Int32))), .val (.ref b95), .val (.int (0 : Int32)), .val (.ref x123), .unset, .unset, .unset] [(.ref x123), (.ref b128), (.ref b128)]))
      refine own_st (fun _ k => XT.lloadN X128.here hx rfl (hb hby at_103) rfl k) ?_
      show own_Go p e below s _ _ _ (T128.setTop (mkF m 104 #[.val (.long p1), .second, .val (.int p2), .val (.int p3), .val (.int p4), .val (.int (p2 &&& (3 : Int32))), .val (.ref b95), .val (.int (0 : Int32)), .val (.ref x123), .unset, .unset, .unset] [(.long p1), (.ref x123), (.ref b128), (.ref b128)]))
      refine own_st (fun _ k => XS.aload X128.here hx rfl (hb hby at_104) rfl rfl k) ?_
      show own_Go p e below s _ _ _ (T128.setTop (mkF m 106 #[.val (.long p1), .second, .val (.int p2), .val (.int p3), .val (.int p4), .val (.int (p2 &&& (3 : Int32))), .val (.ref b95), .val (.int (0 : Int32)), .val (.ref x123), .unset, .unset, .unset] [(.ref b95), (.long p1), (.ref x123), (.ref b128), (.ref b128)]))
      obtain ⟨_, _, ⟨T134, L134, k134, n134⟩, -, X134, ⟨Lc134, hQ134, l134, y134, z134⟩, st134⟩ := X128.specialBack hx (y := (⟨"com/example/wache/wache/ListFile$Mark", "<init>", "(Ljava/lang/Object;J[B)V"⟩ : MethodName)) rfl hown (mvT hZ (hw _ (List.mem_of_getElem? (i := 11) rfl))) (mvT hZ (hw _ (List.mem_of_getElem? (i := 12) rfl))) (mvT hZ (hw _ (List.mem_of_getElem? (i := 13) rfl))) (by decide) (backOf (W := 1) (own_rm_initR l Z a0 hw [] b128 x123 p1 b95 h128 n0 Zs129 A128 F131 F132 F133 g130) hZ (hw _ (List.mem_of_getElem? (i := 13) rfl)) (hw _ (List.mem_of_getElem? (i := 10) rfl)) (by decide) (by decide)) (g := (mkF m 106 #[.val (.long p1), .second, .val (.int p2), .val (.int p3), .val (.int p4), .val (.int (p2 &&& (3 : Int32))), .val (.ref b95), .val (.int (0 : Int32)), .val (.ref x123), .unset, .unset, .unset] [(.ref b95), (.long p1), (.ref x123), (.ref b128), (.ref b128)])) rfl (by rw [hml]; rfl) (Steps.refl _) (a := b128) (argsL := [(.ref x123), (.long p1), (.ref b95)]) (rest := [(.ref b128)]) (lenOf own_pd2 rfl) rfl (by show 2 * 0 + _ ≤ _; exact Nat.le_of_eq rfl) (hb hby at_106) (fun _ _ => ⟨rfl, e128, (by decide : 3 + 0 ≤ _), (by decide : 4 + 0 ≤ _)⟩)
      dsimp only [Pt.U, Pt.locs, Pt.cells, Pt.slots] at X134 l134 y134 z134 st134 hQ134
      subst l134 y134 z134
      obtain ⟨N134q, rfl, K134, q135, q136, q137⟩ := hQ134
      have N138 := Fr.app N126 N134q
      refine own_tr st134 ?_
      have Zs139 : n0 ≤ T134.heap.size := Nat.le_trans Zs129 K134.1
      show own_Go p e below s _ _ _ (T134.setTop (mkF m 109 #[.val (.long p1), .second, .val (.int p2), .val (.int p3), .val (.int p4), .val (.int (p2 &&& (3 : Int32))), .val (.ref b95), .val (.int (0 : Int32)), .val (.ref x123), .unset, .unset, .unset] [(.ref b128)]))
      refine own_st (fun _ k => XS.astore X134.here hx rfl (hb hby at_109) rfl rfl (l' := #[.val (.long p1), .second, .val (.int p2), .val (.int p3), .val (.int p4), .val (.int (p2 &&& (3 : Int32))), .val (.ref b95), .val (.int (0 : Int32)), .val (.ref x123), .val (.ref b128), .unset, .unset]) rfl k) ?_
      show own_Go p e below s _ _ _ (T134.setTop (mkF m 111 #[.val (.long p1), .second, .val (.int p2), .val (.int p3), .val (.int p4), .val (.int (p2 &&& (3 : Int32))), .val (.ref b95), .val (.int (0 : Int32)), .val (.ref x123), .val (.ref b128), .unset, .unset] []))
      refine own_st (fun _ k => XS.aload X134.here hx rfl (hb hby at_111) rfl rfl k) ?_
      show own_Go p e below s _ _ _ (T134.setTop (mkF m 113 #[.val (.long p1), .second, .val (.int p2), .val (.int p3), .val (.int p4), .val (.int (p2 &&& (3 : Int32))), .val (.ref b95), .val (.int (0 : Int32)), .val (.ref x123), .val (.ref b128), .unset, .unset] [(.ref b128)]))
      have ne141 : b95 ≠ b128 := Nat.ne_of_lt (Nat.lt_of_lt_of_le (Nat.lt_of_lt_of_le A95.lt K121.1) (Nat.le_of_eq g128.symm))
      have F142 : Arv Z T134.heap b95 k95 .byte (0 : Int32) [] (.int (0 : Int32)) := (((F98.keep K121 nin0).ext E128).keep K134 (ninS ne141 nin0))
      obtain ⟨cq140, kq140, q140a, q140b, q140c⟩ := isOf hZ rfl q135
      obtain ⟨_, _, ⟨T140, L140, k140, n140⟩, -, X140, ⟨Lc140, hQ140, l140, y140, z140⟩, st140⟩ := X134.virtualBack hx (y := (⟨"com/example/wache/wache/ListFile$Mark", "lastLineStart", "()J"⟩ : MethodName)) (z := (⟨"com/example/wache/wache/ListFile$Mark", "lastLineStart", "()J"⟩ : MethodName)) hown (mvT hZ (hw _ (List.mem_of_getElem? (i := 28) rfl))) (mvT hZ (hw _ (List.mem_of_getElem? (i := 29) rfl))) (notFace_of_selects (args := #[]) (mvT hZ (hw _ (List.mem_of_getElem? (i := 31) rfl)))) (mvT hZ (hw _ (List.mem_of_getElem? (i := 31) rfl))) (mvT hZ (hw _ (List.mem_of_getElem? (i := 30) rfl))) (by decide) (backOf (W := 0) (own_rm_lls l Z a0 hw [] b128 p1 b95 k95 (0 : Int32) [] T134.heap n0 Zs139 q136 q137 F142) hZ (hw _ (List.mem_of_getElem? (i := 32) rfl)) (hw _ (List.mem_of_getElem? (i := 10) rfl)) (by decide) (by decide)) q140a q140c (g := (mkF m 113 #[.val (.long p1), .second, .val (.int p2), .val (.int p3), .val (.int p4), .val (.int (p2 &&& (3 : Int32))), .val (.ref b95), .val (.int (0 : Int32)), .val (.ref x123), .val (.ref b128), .unset, .unset] [(.ref b128)])) rfl (by rw [hml]; rfl) (Steps.refl _) (argsL := []) (rest := []) (lenOf own_pd3 rfl) rfl (by show 2 * 0 + _ ≤ _; exact Nat.le_of_eq rfl) (hb hby at_113) (fun _ _ => ⟨rfl, rfl, (by decide : 3 + 0 ≤ _), (by decide : 4 + 0 ≤ _)⟩)
      dsimp only [Pt.U, Pt.locs, Pt.cells, Pt.slots] at X140 l140 y140 z140 st140 hQ140
      subst l140 y140 z140
      obtain ⟨N140q, rfl, eh140⟩ := hQ140
      have N143 := Fr.app N138 N140q
      refine own_tr st140 ?_
      show own_Go p e below s _ _ _ (T140.setTop (mkF m 116 #[.val (.long p1), .second, .val (.int p2), .val (.int p3), .val (.int p4), .val (.int (p2 &&& (3 : Int32))), .val (.ref b95), .val (.int (0 : Int32)), .val (.ref x123), .val (.ref b128), .unset, .unset] [(.long (p1 - ((0 : Int32).toInt64)))]))
      refine own_st (fun _ k => XT.lstore X140.here hx rfl (hb hby at_116) rfl (l' := #[.val (.long p1), .second, .val (.int p2), .val (.int p3), .val (.int p4), .val (.int (p2 &&& (3 : Int32))), .val (.ref b95), .val (.int (0 : Int32)), .val (.ref x123), .val (.ref b128), .val (.long (p1 - ((0 : Int32).toInt64))), .second]) rfl k) ?_
      show own_Go p e below s _ _ _ (T140.setTop (mkF m 118 #[.val (.long p1), .second, .val (.int p2), .val (.int p3), .val (.int p4), .val (.int (p2 &&& (3 : Int32))), .val (.ref b95), .val (.int (0 : Int32)), .val (.ref x123), .val (.ref b128), .val (.long (p1 - ((0 : Int32).toInt64))), .second] []))
      refine own_st (fun _ k => XT.lload X140.here hx rfl (hb hby at_118) rfl k) ?_
      show own_Go p e below s _ _ _ (T140.setTop (mkF m 120 #[.val (.long p1), .second, .val (.int p2), .val (.int p3), .val (.int p4), .val (.int (p2 &&& (3 : Int32))), .val (.ref b95), .val (.int (0 : Int32)), .val (.ref x123), .val (.ref b128), .val (.long (p1 - ((0 : Int32).toInt64))), .second] [(.long (p1 - ((0 : Int32).toInt64)))]))
      refine own_st (fun _ k => XS.iload X140.here hx rfl (hb hby at_120) rfl k) ?_
      show own_Go p e below s _ _ _ (T140.setTop (mkF m 122 #[.val (.long p1), .second, .val (.int p2), .val (.int p3), .val (.int p4), .val (.int (p2 &&& (3 : Int32))), .val (.ref b95), .val (.int (0 : Int32)), .val (.ref x123), .val (.ref b128), .val (.long (p1 - ((0 : Int32).toInt64))), .second] [(.int (0 : Int32)), (.long (p1 - ((0 : Int32).toInt64)))]))
      refine own_st (fun _ k => XT.i2l X140.here hx rfl (hb hby at_122) rfl k) ?_
      show own_Go p e below s _ _ _ (T140.setTop (mkF m 123 #[.val (.long p1), .second, .val (.int p2), .val (.int p3), .val (.int p4), .val (.int (p2 &&& (3 : Int32))), .val (.ref b95), .val (.int (0 : Int32)), .val (.ref x123), .val (.ref b128), .val (.long (p1 - ((0 : Int32).toInt64))), .second] [(.long ((0 : Int32).toInt64)), (.long (p1 - ((0 : Int32).toInt64)))]))
      refine own_st (fun _ k => XT.ladd X140.here hx rfl (hb hby at_123) rfl k) ?_
      show own_Go p e below s _ _ _ (T140.setTop (mkF m 124 #[.val (.long p1), .second, .val (.int p2), .val (.int p3), .val (.int p4), .val (.int (p2 &&& (3 : Int32))), .val (.ref b95), .val (.int (0 : Int32)), .val (.ref x123), .val (.ref b128), .val (.long (p1 - ((0 : Int32).toInt64))), .second] [(.long ((p1 - ((0 : Int32).toInt64)) + ((0 : Int32).toInt64)))]))
      refine own_st (fun _ k => XT.lloadN X140.here hx rfl (hb hby at_124) rfl k) ?_
      show own_Go p e below s _ _ _ (T140.setTop (mkF m 125 #[.val (.long p1), .second, .val (.int p2), .val (.int p3), .val (.int p4), .val (.int (p2 &&& (3 : Int32))), .val (.ref b95), .val (.int (0 : Int32)), .val (.ref x123), .val (.ref b128), .val (.long (p1 - ((0 : Int32).toInt64))), .second] [(.long p1), (.long ((p1 - ((0 : Int32).toInt64)) + ((0 : Int32).toInt64)))]))
      refine own_st (fun _ k => XT.lcmp X140.here hx rfl (hb hby at_125) rfl k) ?_
      show own_Go p e below s _ _ _ (T140.setTop (mkF m 126 #[.val (.long p1), .second, .val (.int p2), .val (.int p3), .val (.int p4), .val (.int (p2 &&& (3 : Int32))), .val (.ref b95), .val (.int (0 : Int32)), .val (.ref x123), .val (.ref b128), .val (.long (p1 - ((0 : Int32).toInt64))), .second] [(.int (XT.cmpL ((p1 - ((0 : Int32).toInt64)) + ((0 : Int32).toInt64)) p1))]))
      refine own_st (fun _ k => XS.ifNo X140.here hx rfl (hb hby at_126) rfl (XT.ll_ne_f (by simp)) k) ?_
      show own_Go p e below s _ _ _ (T140.setTop (mkF m 129 #[.val (.long p1), .second, .val (.int p2), .val (.int p3), .val (.int p4), .val (.int (p2 &&& (3 : Int32))), .val (.ref b95), .val (.int (0 : Int32)), .val (.ref x123), .val (.ref b128), .val (.long (p1 - ((0 : Int32).toInt64))), .second] []))
      refine own_st (fun _ k => XS.aload X140.here hx rfl (hb hby at_129) rfl rfl k) ?_
      show own_Go p e below s _ _ _ (T140.setTop (mkF m 131 #[.val (.long p1), .second, .val (.int p2), .val (.int p3), .val (.int p4), .val (.int (p2 &&& (3 : Int32))), .val (.ref b95), .val (.int (0 : Int32)), .val (.ref x123), .val (.ref b128), .val (.long (p1 - ((0 : Int32).toInt64))), .second] [(.ref b128)]))
      obtain ⟨cq144, kq144, q144a, q144b, q144c⟩ := isOf hZ eh140 q135
      obtain ⟨_, _, ⟨T144, L144, k144, n144⟩, -, X144, ⟨Lc144, hQ144, l144, y144, z144⟩, st144⟩ := X140.virtualBack hx (y := (⟨"com/example/wache/wache/ListFile$Mark", "offset", "()J"⟩ : MethodName)) (z := (⟨"com/example/wache/wache/ListFile$Mark", "offset", "()J"⟩ : MethodName)) hown (mvT hZ (hw _ (List.mem_of_getElem? (i := 33) rfl))) (mvT hZ (hw _ (List.mem_of_getElem? (i := 34) rfl))) (notFace_of_selects (args := #[]) (mvT hZ (hw _ (List.mem_of_getElem? (i := 36) rfl)))) (mvT hZ (hw _ (List.mem_of_getElem? (i := 36) rfl))) (mvT hZ (hw _ (List.mem_of_getElem? (i := 35) rfl))) (by decide) (backOf (W := 0) (own_rm_offset l Z a0 hw [] b128 p1 T134.heap n0 Zs139 q136) hZ (hw _ (List.mem_of_getElem? (i := 37) rfl)) (hw _ (List.mem_of_getElem? (i := 10) rfl)) (by decide) (by decide)) q144a q144c (g := (mkF m 131 #[.val (.long p1), .second, .val (.int p2), .val (.int p3), .val (.int p4), .val (.int (p2 &&& (3 : Int32))), .val (.ref b95), .val (.int (0 : Int32)), .val (.ref x123), .val (.ref b128), .val (.long (p1 - ((0 : Int32).toInt64))), .second] [(.ref b128)])) rfl (by rw [hml]; rfl) (Steps.refl _) (argsL := []) (rest := []) (lenOf own_pd3 rfl) rfl (by show 2 * 0 + _ ≤ _; exact Nat.le_of_eq rfl) (hb hby at_131) (fun _ _ => ⟨rfl, eh140, (by decide : 3 + 0 ≤ _), (by decide : 4 + 0 ≤ _)⟩)
      dsimp only [Pt.U, Pt.locs, Pt.cells, Pt.slots] at X144 l144 y144 z144 st144 hQ144
      subst l144 y144 z144
      obtain ⟨N144q, rfl, eh144⟩ := hQ144
      have N145 := Fr.app N143 N144q
      refine own_tr st144 ?_
      show own_Go p e below s _ _ _ (T144.setTop (mkF m 134 #[.val (.long p1), .second, .val (.int p2), .val (.int p3), .val (.int p4), .val (.int (p2 &&& (3 : Int32))), .val (.ref b95), .val (.int (0 : Int32)), .val (.ref x123), .val (.ref b128), .val (.long (p1 - ((0 : Int32).toInt64))), .second] [(.long p1)]))
      refine own_st (fun _ k => XT.lloadN X144.here hx rfl (hb hby at_134) rfl k) ?_
      show own_Go p e below s _ _ _ (T144.setTop (mkF m 135 #[.val (.long p1), .second, .val (.int p2), .val (.int p3), .val (.int p4), .val (.int (p2 &&& (3 : Int32))), .val (.ref b95), .val (.int (0 : Int32)), .val (.ref x123), .val (.ref b128), .val (.long (p1 - ((0 : Int32).toInt64))), .second] [(.long p1), (.long p1)]))
      refine own_st (fun _ k => XT.lcmp X144.here hx rfl (hb hby at_135) rfl k) ?_
      show own_Go p e below s _ _ _ (T144.setTop (mkF m 136 #[.val (.long p1), .second, .val (.int p2), .val (.int p3), .val (.int p4), .val (.int (p2 &&& (3 : Int32))), .val (.ref b95), .val (.int (0 : Int32)), .val (.ref x123), .val (.ref b128), .val (.long (p1 - ((0 : Int32).toInt64))), .second] [(.int (XT.cmpL p1 p1))]))
      refine own_st (fun _ k => XS.ifNo X144.here hx rfl (hb hby at_136) rfl (XT.ll_ne_f rfl) k) ?_
      show own_Go p e below s _ _ _ (T144.setTop (mkF m 139 #[.val (.long p1), .second, .val (.int p2), .val (.int p3), .val (.int p4), .val (.int (p2 &&& (3 : Int32))), .val (.ref b95), .val (.int (0 : Int32)), .val (.ref x123), .val (.ref b128), .val (.long (p1 - ((0 : Int32).toInt64))), .second] []))
      refine own_st (fun _ k => XS.aload X144.here hx rfl (hb hby at_139) rfl rfl k) ?_
      show own_Go p e below s _ _ _ (T144.setTop (mkF m 141 #[.val (.long p1), .second, .val (.int p2), .val (.int p3), .val (.int p4), .val (.int (p2 &&& (3 : Int32))), .val (.ref b95), .val (.int (0 : Int32)), .val (.ref x123), .val (.ref b128), .val (.long (p1 - ((0 : Int32).toInt64))), .second] [(.ref b128)]))
      obtain ⟨cq146, kq146, q146a, q146b, q146c⟩ := isOf hZ eh144 q135
      obtain ⟨_, _, ⟨T146, L146, k146, n146⟩, -, X146, ⟨Lc146, hQ146, l146, y146, z146⟩, st146⟩ := X144.virtualBack hx (y := (⟨"com/example/wache/wache/ListFile$Mark", "lastLine", "()[B"⟩ : MethodName)) (z := (⟨"com/example/wache/wache/ListFile$Mark", "lastLine", "()[B"⟩ : MethodName)) hown (mvT hZ (hw _ (List.mem_of_getElem? (i := 38) rfl))) (mvT hZ (hw _ (List.mem_of_getElem? (i := 39) rfl))) (notFace_of_selects (args := #[]) (mvT hZ (hw _ (List.mem_of_getElem? (i := 41) rfl)))) (mvT hZ (hw _ (List.mem_of_getElem? (i := 41) rfl))) (mvT hZ (hw _ (List.mem_of_getElem? (i := 40) rfl))) (by decide) (backOf (W := 0) (own_rm_lastLine l Z a0 hw [] b128 b95 T134.heap n0 Zs139 q137) hZ (hw _ (List.mem_of_getElem? (i := 42) rfl)) (hw _ (List.mem_of_getElem? (i := 10) rfl)) (by decide) (by decide)) q146a q146c (g := (mkF m 141 #[.val (.long p1), .second, .val (.int p2), .val (.int p3), .val (.int p4), .val (.int (p2 &&& (3 : Int32))), .val (.ref b95), .val (.int (0 : Int32)), .val (.ref x123), .val (.ref b128), .val (.long (p1 - ((0 : Int32).toInt64))), .second] [(.ref b128)])) rfl (by rw [hml]; rfl) (Steps.refl _) (argsL := []) (rest := []) (lenOf own_pd4 rfl) rfl (by show 2 * 0 + _ ≤ _; exact Nat.le_of_eq rfl) (hb hby at_141) (fun _ _ => ⟨rfl, eh144, (by decide : 3 + 0 ≤ _), (by decide : 4 + 0 ≤ _)⟩)
      dsimp only [Pt.U, Pt.locs, Pt.cells, Pt.slots] at X146 l146 y146 z146 st146 hQ146
      subst l146 y146 z146
      obtain ⟨N146q, rfl, eh146⟩ := hQ146
      have N147 := Fr.app N145 N146q
      refine own_tr st146 ?_
      show own_Go p e below s _ _ _ (T146.setTop (mkF m 144 #[.val (.long p1), .second, .val (.int p2), .val (.int p3), .val (.int p4), .val (.int (p2 &&& (3 : Int32))), .val (.ref b95), .val (.int (0 : Int32)), .val (.ref x123), .val (.ref b128), .val (.long (p1 - ((0 : Int32).toInt64))), .second] [(.ref b95)]))
      refine own_st (fun _ k => XS.aload X146.here hx rfl (hb hby at_144) rfl rfl k) ?_
      show own_Go p e below s _ _ _ (T146.setTop (mkF m 146 #[.val (.long p1), .second, .val (.int p2), .val (.int p3), .val (.int p4), .val (.int (p2 &&& (3 : Int32))), .val (.ref b95), .val (.int (0 : Int32)), .val (.ref x123), .val (.ref b128), .val (.long (p1 - ((0 : Int32).toInt64))), .second] [(.ref b95), (.ref b95)]))
      refine own_st (fun _ k => XT.acmpNo X146.here hx rfl (hb hby at_146) rfl rfl rfl (XT.aa_ne_f (congrArg Value.ref rfl)) k) ?_
      show own_Go p e below s _ _ _ (T146.setTop (mkF m 149 #[.val (.long p1), .second, .val (.int p2), .val (.int p3), .val (.int p4), .val (.int (p2 &&& (3 : Int32))), .val (.ref b95), .val (.int (0 : Int32)), .val (.ref x123), .val (.ref b128), .val (.long (p1 - ((0 : Int32).toInt64))), .second] []))
      refine own_st (fun _ k => XT.iconstV X146.here hx rfl (1 : Int32) (hb hby at_149) (by decide) k) ?_
      show own_Go p e below s _ _ _ (T146.setTop (mkF m 150 #[.val (.long p1), .second, .val (.int p2), .val (.int p3), .val (.int p4), .val (.int (p2 &&& (3 : Int32))), .val (.ref b95), .val (.int (0 : Int32)), .val (.ref x123), .val (.ref b128), .val (.long (p1 - ((0 : Int32).toInt64))), .second] [(.int (1 : Int32))]))
      refine own_st (fun _ k => XS.goto X146.here hx rfl (pc0 := 150) (pc' := 154) rfl (hb hby at_150) (by decide) (by decide) k) ?_
      show own_Go p e below s _ _ _ (T146.setTop (mkF m 154 #[.val (.long p1), .second, .val (.int p2), .val (.int p3), .val (.int p4), .val (.int (p2 &&& (3 : Int32))), .val (.ref b95), .val (.int (0 : Int32)), .val (.ref x123), .val (.ref b128), .val (.long (p1 - ((0 : Int32).toInt64))), .second] [(.int (1 : Int32))]))
      refine own_retN X146 hx hlk Bd.returns (t := .boolean) (z' := (1 : Int32)) (by simp) (by decide) (hb hby at_154) (by decide) (by decide) ?_
      rw [eh146]
      exact ⟨N147, rfl⟩
  · refine own_st (fun _ k => XS.ifYes X0.here hx rfl (pc0 := 7) (pc' := 18) rfl (hb hby at_7) rfl (XT.i0_ne_t hc94) (by decide) (by decide) k) ?_
    show own_Go p e below s _ _ _ (s₁.setTop (mkF m 18 #[.val (.long p1), .second, .val (.int p2), .val (.int p3), .val (.int p4), .val (.int (p2 &&& (3 : Int32))), .unset, .unset, .unset, .unset, .unset, .unset] []))
    refine own_st (fun _ k => XS.iload X0.here hx rfl (hb hby at_18) rfl k) ?_
    show own_Go p e below s _ _ _ (s₁.setTop (mkF m 20 #[.val (.long p1), .second, .val (.int p2), .val (.int p3), .val (.int p4), .val (.int (p2 &&& (3 : Int32))), .unset, .unset, .unset, .unset, .unset, .unset] [(.int (p2 &&& (3 : Int32)))]))
    refine own_st (fun _ k => XT.iconstV X0.here hx rfl (1 : Int32) (hb hby at_20) (by decide) k) ?_
    show own_Go p e below s _ _ _ (s₁.setTop (mkF m 21 #[.val (.long p1), .second, .val (.int p2), .val (.int p3), .val (.int p4), .val (.int (p2 &&& (3 : Int32))), .unset, .unset, .unset, .unset, .unset, .unset] [(.int (1 : Int32)), (.int (p2 &&& (3 : Int32)))]))
    by_cases hc148 : (p2 &&& (3 : Int32)) = (1 : Int32)
    · refine own_st (fun _ k => XS.icmpNo X0.here hx rfl (hb hby at_21) rfl (XT.ii_ne_f hc148) k) ?_
      show own_Go p e below s _ _ _ (s₁.setTop (mkF m 24 #[.val (.long p1), .second, .val (.int p2), .val (.int p3), .val (.int p4), .val (.int (p2 &&& (3 : Int32))), .unset, .unset, .unset, .unset, .unset, .unset] []))
      refine own_st (fun _ k => XT.iconstV X0.here hx rfl (1 : Int32) (hb hby at_24) (by decide) k) ?_
      show own_Go p e below s _ _ _ (s₁.setTop (mkF m 25 #[.val (.long p1), .second, .val (.int p2), .val (.int p3), .val (.int p4), .val (.int (p2 &&& (3 : Int32))), .unset, .unset, .unset, .unset, .unset, .unset] [(.int (1 : Int32))]))
      obtain ⟨T149, h149, k149, X149, e149, E149, A149, Ea149, st149⟩ := newPE X0 hx hZ (aty := .byte) (hw _ (List.mem_of_getElem? (i := 0) rfl)) e0 (g := (mkF m 25 #[.val (.long p1), .second, .val (.int p2), .val (.int p3), .val (.int p4), .val (.int (p2 &&& (3 : Int32))), .unset, .unset, .unset, .unset, .unset, .unset] [(.int (1 : Int32))])) rfl (hb hby at_25) rfl (by decide) (cap := 1) (by decide) (by decide) (by decide) (by decide) (ad := "[B") (by decide +kernel)
      obtain ⟨b149, g149⟩ : ∃ z, z = h0.size := ⟨_, rfl⟩
      rw [← g149] at A149 Ea149 st149
      refine own_st st149 ?_
      have Zs150 : n0 ≤ h149.size := Nat.le_trans Z0 E149.1
      have g151 : n0 ≤ b149 := Nat.le_trans Z0 (Nat.le_of_eq g149.symm)
      have F152 : Arv Z h149 b149 k149 .byte (1 : Int32) [(.int (0 : Int32))] (.int (0 : Int32)) := (Arv.new A149 (by decide)).pad (fun i => own_pad 1 _ i)
      show own_Go p e below s _ _ _ (T149.setTop (mkF m 27 #[.val (.long p1), .second, .val (.int p2), .val (.int p3), .val (.int p4), .val (.int (p2 &&& (3 : Int32))), .unset, .unset, .unset, .unset, .unset, .unset] [(.ref b149)]))
      refine own_st (fun _ k => XS.astore X149.here hx rfl (hb hby at_27) rfl rfl (l' := #[.val (.long p1), .second, .val (.int p2), .val (.int p3), .val (.int p4), .val (.int (p2 &&& (3 : Int32))), .val (.ref b149), .unset, .unset, .unset, .unset, .unset]) rfl k) ?_
      show own_Go p e below s _ _ _ (T149.setTop (mkF m 29 #[.val (.long p1), .second, .val (.int p2), .val (.int p3), .val (.int p4), .val (.int (p2 &&& (3 : Int32))), .val (.ref b149), .unset, .unset, .unset, .unset, .unset] []))
      refine own_st (fun _ k => XS.goto X149.here hx rfl (pc0 := 29) (pc' := 51) rfl (hb hby at_29) (by decide) (by decide) k) ?_
      show own_Go p e below s _ _ _ (T149.setTop (mkF m 51 #[.val (.long p1), .second, .val (.int p2), .val (.int p3), .val (.int p4), .val (.int (p2 &&& (3 : Int32))), .val (.ref b149), .unset, .unset, .unset, .unset, .unset] []))
      refine own_st (fun _ k => XS.aload X149.here hx rfl (hb hby at_51) rfl rfl k) ?_
      show own_Go p e below s _ _ _ (T149.setTop (mkF m 53 #[.val (.long p1), .second, .val (.int p2), .val (.int p3), .val (.int p4), .val (.int (p2 &&& (3 : Int32))), .val (.ref b149), .unset, .unset, .unset, .unset, .unset] [(.ref b149)]))
      obtain ⟨cl153, Ar153, -, S153, N153, -, -⟩ := id F152
      refine own_st (fun _ k => X149.arraylength hx (by rw [e149]; exact Ar153.1) (State.isArrayOf_alike hZ.alike Ar153.2.1) (g := (mkF m 53 #[.val (.long p1), .second, .val (.int p2), .val (.int p3), .val (.int p4), .val (.int (p2 &&& (3 : Int32))), .val (.ref b149), .unset, .unset, .unset, .unset, .unset] [(.ref b149)])) rfl rfl (hb hby at_53) _ k) ?_
      rw [len_of S153 N153]
      show own_Go p e below s _ _ _ (T149.setTop (mkF m 54 #[.val (.long p1), .second, .val (.int p2), .val (.int p3), .val (.int p4), .val (.int (p2 &&& (3 : Int32))), .val (.ref b149), .unset, .unset, .unset, .unset, .unset] [(.int (1 : Int32))]))
      refine own_st (fun _ k => XS.istore X149.here hx rfl (hb hby at_54) rfl (l' := #[.val (.long p1), .second, .val (.int p2), .val (.int p3), .val (.int p4), .val (.int (p2 &&& (3 : Int32))), .val (.ref b149), .val (.int (1 : Int32)), .unset, .unset, .unset, .unset]) rfl k) ?_
      show own_Go p e below s _ _ _ (T149.setTop (mkF m 56 #[.val (.long p1), .second, .val (.int p2), .val (.int p3), .val (.int p4), .val (.int (p2 &&& (3 : Int32))), .val (.ref b149), .val (.int (1 : Int32)), .unset, .unset, .unset, .unset] []))
      refine own_st (fun _ k => XS.iload X149.here hx rfl (hb hby at_56) rfl k) ?_
      show own_Go p e below s _ _ _ (T149.setTop (mkF m 58 #[.val (.long p1), .second, .val (.int p2), .val (.int p3), .val (.int p4), .val (.int (p2 &&& (3 : Int32))), .val (.ref b149), .val (.int (1 : Int32)), .unset, .unset, .unset, .unset] [(.int (1 : Int32))]))
      refine own_st (fun _ k => XS.ifNo X149.here hx rfl (hb hby at_58) rfl (XT.i0_le_f (by decide)) k) ?_
      show own_Go p e below s _ _ _ (T149.setTop (mkF m 61 #[.val (.long p1), .second, .val (.int p2), .val (.int p3), .val (.int p4), .val (.int (p2 &&& (3 : Int32))), .val (.ref b149), .val (.int (1 : Int32)), .unset, .unset, .unset, .unset] []))
      refine own_st (fun _ k => XS.aload X149.here hx rfl (hb hby at_61) rfl rfl k) ?_
      show own_Go p e below s _ _ _ (T149.setTop (mkF m 63 #[.val (.long p1), .second, .val (.int p2), .val (.int p3), .val (.int p4), .val (.int (p2 &&& (3 : Int32))), .val (.ref b149), .val (.int (1 : Int32)), .unset, .unset, .unset, .unset] [(.ref b149)]))
      refine own_st (fun _ k => XT.iconstV X149.here hx rfl (0 : Int32) (hb hby at_63) (by decide) k) ?_
      show own_Go p e below s _ _ _ (T149.setTop (mkF m 64 #[.val (.long p1), .second, .val (.int p2), .val (.int p3), .val (.int p4), .val (.int (p2 &&& (3 : Int32))), .val (.ref b149), .val (.int (1 : Int32)), .unset, .unset, .unset, .unset] [(.int (0 : Int32)), (.ref b149)]))
      refine own_st (fun _ k => XS.iload X149.here hx rfl (hb hby at_64) rfl k) ?_
      show own_Go p e below s _ _ _ (T149.setTop (mkF m 66 #[.val (.long p1), .second, .val (.int p2), .val (.int p3), .val (.int p4), .val (.int (p2 &&& (3 : Int32))), .val (.ref b149), .val (.int (1 : Int32)), .unset, .unset, .unset, .unset] [(.int p4), (.int (0 : Int32)), (.ref b149)]))
      refine own_st (fun _ k => XT.bipushV X149.here hx rfl (8 : Int32) (hb hby at_66) (by decide) k) ?_
      show own_Go p e below s _ _ _ (T149.setTop (mkF m 68 #[.val (.long p1), .second, .val (.int p2), .val (.int p3), .val (.int p4), .val (.int (p2 &&& (3 : Int32))), .val (.ref b149), .val (.int (1 : Int32)), .unset, .unset, .unset, .unset] [(.int (8 : Int32)), (.int p4), (.int (0 : Int32)), (.ref b149)]))
      refine own_st (fun _ k => XT.iushr X149.here hx rfl (hb hby at_68) rfl k) ?_
      show own_Go p e below s _ _ _ (T149.setTop (mkF m 69 #[.val (.long p1), .second, .val (.int p2), .val (.int p3), .val (.int p4), .val (.int (p2 &&& (3 : Int32))), .val (.ref b149), .val (.int (1 : Int32)), .unset, .unset, .unset, .unset] [(.int (XT.ushr p4 (8 : Int32))), (.int (0 : Int32)), (.ref b149)]))
      refine own_st (fun _ k => XT.i2b X149.here hx rfl (hb hby at_69) rfl k) ?_
      show own_Go p e below s _ _ _ (T149.setTop (mkF m 70 #[.val (.long p1), .second, .val (.int p2), .val (.int p3), .val (.int p4), .val (.int (p2 &&& (3 : Int32))), .val (.ref b149), .val (.int (1 : Int32)), .unset, .unset, .unset, .unset] [(.int ((XT.ushr p4 (8 : Int32)).toInt8.toInt32)), (.int (0 : Int32)), (.ref b149)]))
      obtain ⟨cl154, Ar154, kc154, S154, Nn154, H154, G154⟩ := id F152
      have hin154 : ¬ ((0 : Int32) < 0 ∨ cl154.slots.size ≤ ((0 : Int32) : Int32).toNatClampNeg) := inb_of S154 (by decide)
      obtain ⟨T154, h154, X154, e154, W154, st154⟩ := stB X149 hx hZ e149 Ar154 (j := (0 : Int32)) hin154 (g := (mkF m 70 #[.val (.long p1), .second, .val (.int p2), .val (.int p3), .val (.int p4), .val (.int (p2 &&& (3 : Int32))), .val (.ref b149), .val (.int (1 : Int32)), .unset, .unset, .unset, .unset] [(.int ((XT.ushr p4 (8 : Int32)).toInt8.toInt32)), (.int (0 : Int32)), (.ref b149)])) rfl rfl (hb hby at_70)
      refine own_st st154 ?_
      have N155 := Fr.snoc X154 N0 g151
      have F156 : Arv Z h154 b149 k149 .byte (1 : Int32) [(.int (nar .byte ((XT.ushr p4 (8 : Int32)).toInt8.toInt32)))] (.int (0 : Int32)) := Arv.set Ar154 kc154 S154 Nn154 H154 G154 (fits_nar_byte _) W154 0 (by decide) (Nat.le_of_ble_eq_true rfl)
      have Zs157 : n0 ≤ h154.size := Nat.le_trans Zs150 (Nat.le_of_eq W154.size.symm)
      show own_Go p e below s _ _ _ (T154.setTop (mkF m 71 #[.val (.long p1), .second, .val (.int p2), .val (.int p3), .val (.int p4), .val (.int (p2 &&& (3 : Int32))), .val (.ref b149), .val (.int (1 : Int32)), .unset, .unset, .unset, .unset] []))
      refine own_st (fun _ k => XS.aload X154.here hx rfl (hb hby at_71) rfl rfl k) ?_
      show own_Go p e below s _ _ _ (T154.setTop (mkF m 73 #[.val (.long p1), .second, .val (.int p2), .val (.int p3), .val (.int p4), .val (.int (p2 &&& (3 : Int32))), .val (.ref b149), .val (.int (1 : Int32)), .unset, .unset, .unset, .unset] [(.ref b149)]))
      refine own_st (fun _ k => XS.iload X154.here hx rfl (hb hby at_73) rfl k) ?_
      show own_Go p e below s _ _ _ (T154.setTop (mkF m 75 #[.val (.long p1), .second, .val (.int p2), .val (.int p3), .val (.int p4), .val (.int (p2 &&& (3 : Int32))), .val (.ref b149), .val (.int (1 : Int32)), .unset, .unset, .unset, .unset] [(.int (1 : Int32)), (.ref b149)]))
      refine own_st (fun _ k => XT.iconstV X154.here hx rfl (1 : Int32) (hb hby at_75) (by decide) k) ?_
      show own_Go p e below s _ _ _ (T154.setTop (mkF m 76 #[.val (.long p1), .second, .val (.int p2), .val (.int p3), .val (.int p4), .val (.int (p2 &&& (3 : Int32))), .val (.ref b149), .val (.int (1 : Int32)), .unset, .unset, .unset, .unset] [(.int (1 : Int32)), (.int (1 : Int32)), (.ref b149)]))
      refine own_st (fun _ k => XS.isub X154.here hx rfl (hb hby at_76) rfl k) ?_
      show own_Go p e below s _ _ _ (T154.setTop (mkF m 77 #[.val (.long p1), .second, .val (.int p2), .val (.int p3), .val (.int p4), .val (.int (p2 &&& (3 : Int32))), .val (.ref b149), .val (.int (1 : Int32)), .unset, .unset, .unset, .unset] [(.int (0 : Int32)), (.ref b149)]))
      refine own_st (fun _ k => XS.iload X154.here hx rfl (hb hby at_77) rfl k) ?_
      show own_Go p e below s _ _ _ (T154.setTop (mkF m 79 #[.val (.long p1), .second, .val (.int p2), .val (.int p3), .val (.int p4), .val (.int (p2 &&& (3 : Int32))), .val (.ref b149), .val (.int (1 : Int32)), .unset, .unset, .unset, .unset] [(.int p4), (.int (0 : Int32)), (.ref b149)]))
      refine own_st (fun _ k => XT.i2b X154.here hx rfl (hb hby at_79) rfl k) ?_
      show own_Go p e below s _ _ _ (T154.setTop (mkF m 80 #[.val (.long p1), .second, .val (.int p2), .val (.int p3), .val (.int p4), .val (.int (p2 &&& (3 : Int32))), .val (.ref b149), .val (.int (1 : Int32)), .unset, .unset, .unset, .unset] [(.int (p4.toInt8.toInt32)), (.int (0 : Int32)), (.ref b149)]))
      obtain ⟨cl158, Ar158, kc158, S158, Nn158, H158, G158⟩ := id F156
      have hin158 : ¬ ((0 : Int32) < 0 ∨ cl158.slots.size ≤ ((0 : Int32) : Int32).toNatClampNeg) := inb_of S158 (by decide)
      obtain ⟨T158, h158, X158, e158, W158, st158⟩ := stB X154 hx hZ e154 Ar158 (j := (0 : Int32)) hin158 (g := (mkF m 80 #[.val (.long p1), .second, .val (.int p2), .val (.int p3), .val (.int p4), .val (.int (p2 &&& (3 : Int32))), .val (.ref b149), .val (.int (1 : Int32)), .unset, .unset, .unset, .unset] [(.int (p4.toInt8.toInt32)), (.int (0 : Int32)), (.ref b149)])) rfl rfl (hb hby at_80)
      refine own_st st158 ?_
      have N159 := Fr.snoc X158 N155 g151
      have F160 : Arv Z h158 b149 k149 .byte (1 : Int32) [(.int (nar .byte (p4.toInt8.toInt32)))] (.int (0 : Int32)) := Arv.set Ar158 kc158 S158 Nn158 H158 G158 (fits_nar_byte _) W158 0 (by decide) (Nat.le_of_ble_eq_true rfl)
      have Zs161 : n0 ≤ h158.size := Nat.le_trans Zs157 (Nat.le_of_eq W158.size.symm)
      show own_Go p e below s _ _ _ (T158.setTop (mkF m 81 #[.val (.long p1), .second, .val (.int p2), .val (.int p3), .val (.int p4), .val (.int (p2 &&& (3 : Int32))), .val (.ref b149), .val (.int (1 : Int32)), .unset, .unset, .unset, .unset] []))
      refine own_st (fun _ k => XS.iloadN X158.here hx rfl (hb hby at_81) rfl k) ?_
      show own_Go p e below s _ _ _ (T158.setTop (mkF m 82 #[.val (.long p1), .second, .val (.int p2), .val (.int p3), .val (.int p4), .val (.int (p2 &&& (3 : Int32))), .val (.ref b149), .val (.int (1 : Int32)), .unset, .unset, .unset, .unset] [(.int p3)]))
      refine own_st (fun _ k => XT.iconstV X158.here hx rfl (1 : Int32) (hb hby at_82) (by decide) k) ?_
      show own_Go p e below s _ _ _ (T158.setTop (mkF m 83 #[.val (.long p1), .second, .val (.int p2), .val (.int p3), .val (.int p4), .val (.int (p2 &&& (3 : Int32))), .val (.ref b149), .val (.int (1 : Int32)), .unset, .unset, .unset, .unset] [(.int (1 : Int32)), (.int p3)]))
      refine own_st (fun _ k => XS.iand X158.here hx rfl (hb hby at_83) rfl k) ?_
      show own_Go p e below s _ _ _ (T158.setTop (mkF m 84 #[.val (.long p1), .second, .val (.int p2), .val (.int p3), .val (.int p4), .val (.int (p2 &&& (3 : Int32))), .val (.ref b149), .val (.int (1 : Int32)), .unset, .unset, .unset, .unset] [(.int (p3 &&& (1 : Int32)))]))
      by_cases hc162 : (p3 &&& (1 : Int32)) = 0
      · refine own_st (fun _ k => XS.ifNo X158.here hx rfl (hb hby at_84) rfl (XT.i0_ne_f hc162) k) ?_
        show own_Go p e below s _ _ _ (T158.setTop (mkF m 87 #[.val (.long p1), .second, .val (.int p2), .val (.int p3), .val (.int p4), .val (.int (p2 &&& (3 : Int32))), .val (.ref b149), .val (.int (1 : Int32)), .unset, .unset, .unset, .unset] []))
        refine own_st (fun _ k => XS.aconstNull X158.here hx rfl (hb hby at_87) k) ?_
        show own_Go p e below s _ _ _ (T158.setTop (mkF m 88 #[.val (.long p1), .second, .val (.int p2), .val (.int p3), .val (.int p4), .val (.int (p2 &&& (3 : Int32))), .val (.ref b149), .val (.int (1 : Int32)), .unset, .unset, .unset, .unset] [.null]))
        refine own_st (fun _ k => XS.goto X158.here hx rfl (pc0 := 88) (pc' := 95) rfl (hb hby at_88) (by decide) (by decide) k) ?_
        show own_Go p e below s _ _ _ (T158.setTop (mkF m 95 #[.val (.long p1), .second, .val (.int p2), .val (.int p3), .val (.int p4), .val (.int (p2 &&& (3 : Int32))), .val (.ref b149), .val (.int (1 : Int32)), .unset, .unset, .unset, .unset] [.null]))
        refine own_st (fun _ k => XS.astore X158.here hx rfl (hb hby at_95) rfl rfl (l' := #[.val (.long p1), .second, .val (.int p2), .val (.int p3), .val (.int p4), .val (.int (p2 &&& (3 : Int32))), .val (.ref b149), .val (.int (1 : Int32)), .val .null, .unset, .unset, .unset]) rfl k) ?_
        show own_Go p e below s _ _ _ (T158.setTop (mkF m 97 #[.val (.long p1), .second, .val (.int p2), .val (.int p3), .val (.int p4), .val (.int (p2 &&& (3 : Int32))), .val (.ref b149), .val (.int (1 : Int32)), .val .null, .unset, .unset, .unset] []))
        obtain ⟨T163, h163, X163, e163, E163, A163, D163, -, st163⟩ := newO X158 hx hZ hown (hw _ (List.mem_of_getElem? (i := 8) rfl)) (hw _ (List.mem_of_getElem? (i := 9) rfl)) (hw _ (List.mem_of_getElem? (i := 10) rfl)) e158 (g := (mkF m 97 #[.val (.long p1), .second, .val (.int p2), .val (.int p3), .val (.int p4), .val (.int (p2 &&& (3 : Int32))), .val (.ref b149), .val (.int (1 : Int32)), .val .null, .unset, .unset, .unset] [])) rfl (hb hby at_97) (by decide) (by decide)
        obtain ⟨b163, g163⟩ : ∃ z, z = h158.size := ⟨_, rfl⟩
        rw [← g163] at A163 D163 st163
        refine own_st st163 ?_
        have Zs164 : n0 ≤ h163.size := Nat.le_trans Zs161 E163.1
        have g165 : n0 ≤ b163 := Nat.le_trans Zs161 (Nat.le_of_eq g163.symm)
        have F166 : Fld Z h163 b163 "com/example/wache/wache/ListFile$Mark" "fileKey" "Ljava/lang/Object;" .null := D163 (Or.inr (hw _ (List.mem_of_getElem? (i := 23) rfl))) (ty := (.object "java/lang/Object")) (by decide)
        have F167 : Fld Z h163 b163 "com/example/wache/wache/ListFile$Mark" "offset" "J" (.long (0 : Int64)) := D163 (Or.inr (hw _ (List.mem_of_getElem? (i := 25) rfl))) (ty := .long) (by decide)
        have F168 : Fld Z h163 b163 "com/example/wache/wache/ListFile$Mark" "lastLine" "[B" .null := D163 (Or.inr (hw _ (List.mem_of_getElem? (i := 27) rfl))) (ty := (.array .byte)) (by decide)
        show own_Go p e below s _ _ _ (T163.setTop (mkF m 100 #[.val (.long p1), .second, .val (.int p2), .val (.int p3), .val (.int p4), .val (.int (p2 &&& (3 : Int32))), .val (.ref b149), .val (.int (1 : Int32)), .val .null, .unset, .unset, .unset] [(.ref b163)]))
        refine own_st (fun _ k => XS.dup X163.here hx rfl (hb hby at_100) rfl rfl k) ?_
        show own_Go p e below s _ _ _ (T163.setTop (mkF m 101 #[.val (.long p1), .second, .val (.int p2), .val (.int p3), .val (.int p4), .val (.int (p2 &&& (3 : Int32))), .val (.ref b149), .val (.int (1 : Int32)), .val .null, .unset, .unset, .unset] [(.ref b163), (.ref b163)]))
        refine own_st (fun _ k => XS.aload X163.here hx rfl (hb hby at_101) rfl rfl k) ?_
        show own_Go p e below s _ _ _ (T163.setTop (mkF m 103 #[.val (.long p1), .second, .val (.int p2), .val (.int p3), .val (.int p4), .val (.int (p2 &&& (3 : Int32))), .val (.ref b149), .val (.int (1 : Int32)), .val .null, .unset, .unset, .unset] [.null, (.ref b163), (.ref b163)]))
        refine own_st (fun _ k => XT.lloadN X163.here hx rfl (hb hby at_103) rfl k) ?_
        show own_Go p e below s _ _ _ (T163.setTop (mkF m 104 #[.val (.long p1), .second, .val (.int p2), .val (.int p3), .val (.int p4), .val (.int (p2 &&& (3 : Int32))), .val (.ref b149), .val (.int (1 : Int32)), .val .null, .unset, .unset, .unset] [(.long p1), .null, (.ref b163), (.ref b163)]))
        refine own_st (fun _ k => XS.aload X163.here hx rfl (hb hby at_104) rfl rfl k) ?_
        show own_Go p e below s _ _ _ (T163.setTop (mkF m 106 #[.val (.long p1), .second, .val (.int p2), .val (.int p3), .val (.int p4), .val (.int (p2 &&& (3 : Int32))), .val (.ref b149), .val (.int (1 : Int32)), .val .null, .unset, .unset, .unset] [(.ref b149), (.long p1), .null, (.ref b163), (.ref b163)]))
        obtain ⟨_, _, ⟨T169, L169, k169, n169⟩, -, X169, ⟨Lc169, hQ169, l169, y169, z169⟩, st169⟩ := X163.specialBack hx (y := (⟨"com/example/wache/wache/ListFile$Mark", "<init>", "(Ljava/lang/Object;J[B)V"⟩ : MethodName)) rfl hown (mvT hZ (hw _ (List.mem_of_getElem? (i := 11) rfl))) (mvT hZ (hw _ (List.mem_of_getElem? (i := 12) rfl))) (mvT hZ (hw _ (List.mem_of_getElem? (i := 13) rfl))) (by decide) (backOf (W := 1) (own_rm_initN l Z a0 hw [] b163 p1 b149 h163 n0 Zs164 A163 F166 F167 F168 g165) hZ (hw _ (List.mem_of_getElem? (i := 13) rfl)) (hw _ (List.mem_of_getElem? (i := 10) rfl)) (by decide) (by decide)) (g := (mkF m 106 #[.val (.long p1), .second, .val (.int p2), .val (.int p3), .val (.int p4), .val (.int (p2 &&& (3 : Int32))), .val (.ref b149), .val (.int (1 : Int32)), .val .null, .unset, .unset, .unset] [(.ref b149), (.long p1), .null, (.ref b163), (.ref b163)])) rfl (by rw [hml]; rfl) (Steps.refl _) (a := b163) (argsL := [.null, (.long p1), (.ref b149)]) (rest := [(.ref b163)]) (lenOf own_pd2 rfl) rfl (by show 2 * 0 + _ ≤ _; exact Nat.le_of_eq rfl) (hb hby at_106) (fun _ _ => ⟨rfl, e163, (by decide : 2 + 0 ≤ _), (by decide : 4 + 0 ≤ _)⟩)
        dsimp only [Pt.U, Pt.locs, Pt.cells, Pt.slots] at X169 l169 y169 z169 st169 hQ169
        subst l169 y169 z169
        obtain ⟨N169q, rfl, K169, q170, q171, q172⟩ := hQ169
        have N173 := Fr.app N159 N169q
        refine own_tr st169 ?_
        have Zs174 : n0 ≤ T169.heap.size := Nat.le_trans Zs164 K169.1
        show own_Go p e below s _ _ _ (T169.setTop (mkF m 109 #[.val (.long p1), .second, .val (.int p2), .val (.int p3), .val (.int p4), .val (.int (p2 &&& (3 : Int32))), .val (.ref b149), .val (.int (1 : Int32)), .val .null, .unset, .unset, .unset] [(.ref b163)]))
        refine own_st (fun _ k => XS.astore X169.here hx rfl (hb hby at_109) rfl rfl (l' := #[.val (.long p1), .second, .val (.int p2), .val (.int p3), .val (.int p4), .val (.int (p2 &&& (3 : Int32))), .val (.ref b149), .val (.int (1 : Int32)), .val .null, .val (.ref b163), .unset, .unset]) rfl k) ?_
        show own_Go p e below s _ _ _ (T169.setTop (mkF m 111 #[.val (.long p1), .second, .val (.int p2), .val (.int p3), .val (.int p4), .val (.int (p2 &&& (3 : Int32))), .val (.ref b149), .val (.int (1 : Int32)), .val .null, .val (.ref b163), .unset, .unset] []))
        refine own_st (fun _ k => XS.aload X169.here hx rfl (hb hby at_111) rfl rfl k) ?_
        show own_Go p e below s _ _ _ (T169.setTop (mkF m 113 #[.val (.long p1), .second, .val (.int p2), .val (.int p3), .val (.int p4), .val (.int (p2 &&& (3 : Int32))), .val (.ref b149), .val (.int (1 : Int32)), .val .null, .val (.ref b163), .unset, .unset] [(.ref b163)]))
        have ne176 : b149 ≠ b163 := Nat.ne_of_lt (Nat.lt_of_lt_of_le (Nat.lt_of_lt_of_le A149.lt (Nat.le_trans (Nat.le_of_eq W154.size.symm) (Nat.le_of_eq W158.size.symm))) (Nat.le_of_eq g163.symm))
        have F177 : Arv Z T169.heap b149 k149 .byte (1 : Int32) [(.int (nar .byte (p4.toInt8.toInt32)))] (.int (0 : Int32)) := ((F160.ext E163).keep K169 (ninS ne176 nin0))
        obtain ⟨cq175, kq175, q175a, q175b, q175c⟩ := isOf hZ rfl q170
        obtain ⟨_, _, ⟨T175, L175, k175, n175⟩, -, X175, ⟨Lc175, hQ175, l175, y175, z175⟩, st175⟩ := X169.virtualBack hx (y := (⟨"com/example/wache/wache/ListFile$Mark", "lastLineStart", "()J"⟩ : MethodName)) (z := (⟨"com/example/wache/wache/ListFile$Mark", "lastLineStart", "()J"⟩ : MethodName)) hown (mvT hZ (hw _ (List.mem_of_getElem? (i := 28) rfl))) (mvT hZ (hw _ (List.mem_of_getElem? (i := 29) rfl))) (notFace_of_selects (args := #[]) (mvT hZ (hw _ (List.mem_of_getElem? (i := 31) rfl)))) (mvT hZ (hw _ (List.mem_of_getElem? (i := 31) rfl))) (mvT hZ (hw _ (List.mem_of_getElem? (i := 30) rfl))) (by decide) (backOf (W := 0) (own_rm_lls l Z a0 hw [] b163 p1 b149 k149 (1 : Int32) [(.int (nar .byte (p4.toInt8.toInt32)))] T169.heap n0 Zs174 q171 q172 F177) hZ (hw _ (List.mem_of_getElem? (i := 32) rfl)) (hw _ (List.mem_of_getElem? (i := 10) rfl)) (by decide) (by decide)) q175a q175c (g := (mkF m 113 #[.val (.long p1), .second, .val (.int p2), .val (.int p3), .val (.int p4), .val (.int (p2 &&& (3 : Int32))), .val (.ref b149), .val (.int (1 : Int32)), .val .null, .val (.ref b163), .unset, .unset] [(.ref b163)])) rfl (by rw [hml]; rfl) (Steps.refl _) (argsL := []) (rest := []) (lenOf own_pd3 rfl) rfl (by show 2 * 0 + _ ≤ _; exact Nat.le_of_eq rfl) (hb hby at_113) (fun _ _ => ⟨rfl, rfl, (by decide : 2 + 0 ≤ _), (by decide : 4 + 0 ≤ _)⟩)
        dsimp only [Pt.U, Pt.locs, Pt.cells, Pt.slots] at X175 l175 y175 z175 st175 hQ175
        subst l175 y175 z175
        obtain ⟨N175q, rfl, eh175⟩ := hQ175
        have N178 := Fr.app N173 N175q
        refine own_tr st175 ?_
        show own_Go p e below s _ _ _ (T175.setTop (mkF m 116 #[.val (.long p1), .second, .val (.int p2), .val (.int p3), .val (.int p4), .val (.int (p2 &&& (3 : Int32))), .val (.ref b149), .val (.int (1 : Int32)), .val .null, .val (.ref b163), .unset, .unset] [(.long (p1 - ((1 : Int32).toInt64)))]))
        refine own_st (fun _ k => XT.lstore X175.here hx rfl (hb hby at_116) rfl (l' := #[.val (.long p1), .second, .val (.int p2), .val (.int p3), .val (.int p4), .val (.int (p2 &&& (3 : Int32))), .val (.ref b149), .val (.int (1 : Int32)), .val .null, .val (.ref b163), .val (.long (p1 - ((1 : Int32).toInt64))), .second]) rfl k) ?_
        show own_Go p e below s _ _ _ (T175.setTop (mkF m 118 #[.val (.long p1), .second, .val (.int p2), .val (.int p3), .val (.int p4), .val (.int (p2 &&& (3 : Int32))), .val (.ref b149), .val (.int (1 : Int32)), .val .null, .val (.ref b163), .val (.long (p1 - ((1 : Int32).toInt64))), .second] []))
        refine own_st (fun _ k => XT.lload X175.here hx rfl (hb hby at_118) rfl k) ?_
        show own_Go p e below s _ _ _ (T175.setTop (mkF m 120 #[.val (.long p1), .second, .val (.int p2), .val (.int p3), .val (.int p4), .val (.int (p2 &&& (3 : Int32))), .val (.ref b149), .val (.int (1 : Int32)), .val .null, .val (.ref b163), .val (.long (p1 - ((1 : Int32).toInt64))), .second] [(.long (p1 - ((1 : Int32).toInt64)))]))
        refine own_st (fun _ k => XS.iload X175.here hx rfl (hb hby at_120) rfl k) ?_
        show own_Go p e below s _ _ _ (T175.setTop (mkF m 122 #[.val (.long p1), .second, .val (.int p2), .val (.int p3), .val (.int p4), .val (.int (p2 &&& (3 : Int32))), .val (.ref b149), .val (.int (1 : Int32)), .val .null, .val (.ref b163), .val (.long (p1 - ((1 : Int32).toInt64))), .second] [(.int (1 : Int32)), (.long (p1 - ((1 : Int32).toInt64)))]))
        refine own_st (fun _ k => XT.i2l X175.here hx rfl (hb hby at_122) rfl k) ?_
        show own_Go p e below s _ _ _ (T175.setTop (mkF m 123 #[.val (.long p1), .second, .val (.int p2), .val (.int p3), .val (.int p4), .val (.int (p2 &&& (3 : Int32))), .val (.ref b149), .val (.int (1 : Int32)), .val .null, .val (.ref b163), .val (.long (p1 - ((1 : Int32).toInt64))), .second] [(.long ((1 : Int32).toInt64)), (.long (p1 - ((1 : Int32).toInt64)))]))
        refine own_st (fun _ k => XT.ladd X175.here hx rfl (hb hby at_123) rfl k) ?_
        show own_Go p e below s _ _ _ (T175.setTop (mkF m 124 #[.val (.long p1), .second, .val (.int p2), .val (.int p3), .val (.int p4), .val (.int (p2 &&& (3 : Int32))), .val (.ref b149), .val (.int (1 : Int32)), .val .null, .val (.ref b163), .val (.long (p1 - ((1 : Int32).toInt64))), .second] [(.long ((p1 - ((1 : Int32).toInt64)) + ((1 : Int32).toInt64)))]))
        refine own_st (fun _ k => XT.lloadN X175.here hx rfl (hb hby at_124) rfl k) ?_
        show own_Go p e below s _ _ _ (T175.setTop (mkF m 125 #[.val (.long p1), .second, .val (.int p2), .val (.int p3), .val (.int p4), .val (.int (p2 &&& (3 : Int32))), .val (.ref b149), .val (.int (1 : Int32)), .val .null, .val (.ref b163), .val (.long (p1 - ((1 : Int32).toInt64))), .second] [(.long p1), (.long ((p1 - ((1 : Int32).toInt64)) + ((1 : Int32).toInt64)))]))
        refine own_st (fun _ k => XT.lcmp X175.here hx rfl (hb hby at_125) rfl k) ?_
        show own_Go p e below s _ _ _ (T175.setTop (mkF m 126 #[.val (.long p1), .second, .val (.int p2), .val (.int p3), .val (.int p4), .val (.int (p2 &&& (3 : Int32))), .val (.ref b149), .val (.int (1 : Int32)), .val .null, .val (.ref b163), .val (.long (p1 - ((1 : Int32).toInt64))), .second] [(.int (XT.cmpL ((p1 - ((1 : Int32).toInt64)) + ((1 : Int32).toInt64)) p1))]))
        refine own_st (fun _ k => XS.ifNo X175.here hx rfl (hb hby at_126) rfl (XT.ll_ne_f (by simp)) k) ?_
        show own_Go p e below s _ _ _ (T175.setTop (mkF m 129 #[.val (.long p1), .second, .val (.int p2), .val (.int p3), .val (.int p4), .val (.int (p2 &&& (3 : Int32))), .val (.ref b149), .val (.int (1 : Int32)), .val .null, .val (.ref b163), .val (.long (p1 - ((1 : Int32).toInt64))), .second] []))
        refine own_st (fun _ k => XS.aload X175.here hx rfl (hb hby at_129) rfl rfl k) ?_
        show own_Go p e below s _ _ _ (T175.setTop (mkF m 131 #[.val (.long p1), .second, .val (.int p2), .val (.int p3), .val (.int p4), .val (.int (p2 &&& (3 : Int32))), .val (.ref b149), .val (.int (1 : Int32)), .val .null, .val (.ref b163), .val (.long (p1 - ((1 : Int32).toInt64))), .second] [(.ref b163)]))
        obtain ⟨cq179, kq179, q179a, q179b, q179c⟩ := isOf hZ eh175 q170
        obtain ⟨_, _, ⟨T179, L179, k179, n179⟩, -, X179, ⟨Lc179, hQ179, l179, y179, z179⟩, st179⟩ := X175.virtualBack hx (y := (⟨"com/example/wache/wache/ListFile$Mark", "offset", "()J"⟩ : MethodName)) (z := (⟨"com/example/wache/wache/ListFile$Mark", "offset", "()J"⟩ : MethodName)) hown (mvT hZ (hw _ (List.mem_of_getElem? (i := 33) rfl))) (mvT hZ (hw _ (List.mem_of_getElem? (i := 34) rfl))) (notFace_of_selects (args := #[]) (mvT hZ (hw _ (List.mem_of_getElem? (i := 36) rfl)))) (mvT hZ (hw _ (List.mem_of_getElem? (i := 36) rfl))) (mvT hZ (hw _ (List.mem_of_getElem? (i := 35) rfl))) (by decide) (backOf (W := 0) (own_rm_offset l Z a0 hw [] b163 p1 T169.heap n0 Zs174 q171) hZ (hw _ (List.mem_of_getElem? (i := 37) rfl)) (hw _ (List.mem_of_getElem? (i := 10) rfl)) (by decide) (by decide)) q179a q179c (g := (mkF m 131 #[.val (.long p1), .second, .val (.int p2), .val (.int p3), .val (.int p4), .val (.int (p2 &&& (3 : Int32))), .val (.ref b149), .val (.int (1 : Int32)), .val .null, .val (.ref b163), .val (.long (p1 - ((1 : Int32).toInt64))), .second] [(.ref b163)])) rfl (by rw [hml]; rfl) (Steps.refl _) (argsL := []) (rest := []) (lenOf own_pd3 rfl) rfl (by show 2 * 0 + _ ≤ _; exact Nat.le_of_eq rfl) (hb hby at_131) (fun _ _ => ⟨rfl, eh175, (by decide : 2 + 0 ≤ _), (by decide : 4 + 0 ≤ _)⟩)
        dsimp only [Pt.U, Pt.locs, Pt.cells, Pt.slots] at X179 l179 y179 z179 st179 hQ179
        subst l179 y179 z179
        obtain ⟨N179q, rfl, eh179⟩ := hQ179
        have N180 := Fr.app N178 N179q
        refine own_tr st179 ?_
        show own_Go p e below s _ _ _ (T179.setTop (mkF m 134 #[.val (.long p1), .second, .val (.int p2), .val (.int p3), .val (.int p4), .val (.int (p2 &&& (3 : Int32))), .val (.ref b149), .val (.int (1 : Int32)), .val .null, .val (.ref b163), .val (.long (p1 - ((1 : Int32).toInt64))), .second] [(.long p1)]))
        refine own_st (fun _ k => XT.lloadN X179.here hx rfl (hb hby at_134) rfl k) ?_
        show own_Go p e below s _ _ _ (T179.setTop (mkF m 135 #[.val (.long p1), .second, .val (.int p2), .val (.int p3), .val (.int p4), .val (.int (p2 &&& (3 : Int32))), .val (.ref b149), .val (.int (1 : Int32)), .val .null, .val (.ref b163), .val (.long (p1 - ((1 : Int32).toInt64))), .second] [(.long p1), (.long p1)]))
        refine own_st (fun _ k => XT.lcmp X179.here hx rfl (hb hby at_135) rfl k) ?_
        show own_Go p e below s _ _ _ (T179.setTop (mkF m 136 #[.val (.long p1), .second, .val (.int p2), .val (.int p3), .val (.int p4), .val (.int (p2 &&& (3 : Int32))), .val (.ref b149), .val (.int (1 : Int32)), .val .null, .val (.ref b163), .val (.long (p1 - ((1 : Int32).toInt64))), .second] [(.int (XT.cmpL p1 p1))]))
        refine own_st (fun _ k => XS.ifNo X179.here hx rfl (hb hby at_136) rfl (XT.ll_ne_f rfl) k) ?_
        show own_Go p e below s _ _ _ (T179.setTop (mkF m 139 #[.val (.long p1), .second, .val (.int p2), .val (.int p3), .val (.int p4), .val (.int (p2 &&& (3 : Int32))), .val (.ref b149), .val (.int (1 : Int32)), .val .null, .val (.ref b163), .val (.long (p1 - ((1 : Int32).toInt64))), .second] []))
        refine own_st (fun _ k => XS.aload X179.here hx rfl (hb hby at_139) rfl rfl k) ?_
        show own_Go p e below s _ _ _ (T179.setTop (mkF m 141 #[.val (.long p1), .second, .val (.int p2), .val (.int p3), .val (.int p4), .val (.int (p2 &&& (3 : Int32))), .val (.ref b149), .val (.int (1 : Int32)), .val .null, .val (.ref b163), .val (.long (p1 - ((1 : Int32).toInt64))), .second] [(.ref b163)]))
        obtain ⟨cq181, kq181, q181a, q181b, q181c⟩ := isOf hZ eh179 q170
        obtain ⟨_, _, ⟨T181, L181, k181, n181⟩, -, X181, ⟨Lc181, hQ181, l181, y181, z181⟩, st181⟩ := X179.virtualBack hx (y := (⟨"com/example/wache/wache/ListFile$Mark", "lastLine", "()[B"⟩ : MethodName)) (z := (⟨"com/example/wache/wache/ListFile$Mark", "lastLine", "()[B"⟩ : MethodName)) hown (mvT hZ (hw _ (List.mem_of_getElem? (i := 38) rfl))) (mvT hZ (hw _ (List.mem_of_getElem? (i := 39) rfl))) (notFace_of_selects (args := #[]) (mvT hZ (hw _ (List.mem_of_getElem? (i := 41) rfl)))) (mvT hZ (hw _ (List.mem_of_getElem? (i := 41) rfl))) (mvT hZ (hw _ (List.mem_of_getElem? (i := 40) rfl))) (by decide) (backOf (W := 0) (own_rm_lastLine l Z a0 hw [] b163 b149 T169.heap n0 Zs174 q172) hZ (hw _ (List.mem_of_getElem? (i := 42) rfl)) (hw _ (List.mem_of_getElem? (i := 10) rfl)) (by decide) (by decide)) q181a q181c (g := (mkF m 141 #[.val (.long p1), .second, .val (.int p2), .val (.int p3), .val (.int p4), .val (.int (p2 &&& (3 : Int32))), .val (.ref b149), .val (.int (1 : Int32)), .val .null, .val (.ref b163), .val (.long (p1 - ((1 : Int32).toInt64))), .second] [(.ref b163)])) rfl (by rw [hml]; rfl) (Steps.refl _) (argsL := []) (rest := []) (lenOf own_pd4 rfl) rfl (by show 2 * 0 + _ ≤ _; exact Nat.le_of_eq rfl) (hb hby at_141) (fun _ _ => ⟨rfl, eh179, (by decide : 2 + 0 ≤ _), (by decide : 4 + 0 ≤ _)⟩)
        dsimp only [Pt.U, Pt.locs, Pt.cells, Pt.slots] at X181 l181 y181 z181 st181 hQ181
        subst l181 y181 z181
        obtain ⟨N181q, rfl, eh181⟩ := hQ181
        have N182 := Fr.app N180 N181q
        refine own_tr st181 ?_
        show own_Go p e below s _ _ _ (T181.setTop (mkF m 144 #[.val (.long p1), .second, .val (.int p2), .val (.int p3), .val (.int p4), .val (.int (p2 &&& (3 : Int32))), .val (.ref b149), .val (.int (1 : Int32)), .val .null, .val (.ref b163), .val (.long (p1 - ((1 : Int32).toInt64))), .second] [(.ref b149)]))
        refine own_st (fun _ k => XS.aload X181.here hx rfl (hb hby at_144) rfl rfl k) ?_
        show own_Go p e below s _ _ _ (T181.setTop (mkF m 146 #[.val (.long p1), .second, .val (.int p2), .val (.int p3), .val (.int p4), .val (.int (p2 &&& (3 : Int32))), .val (.ref b149), .val (.int (1 : Int32)), .val .null, .val (.ref b163), .val (.long (p1 - ((1 : Int32).toInt64))), .second] [(.ref b149), (.ref b149)]))
        refine own_st (fun _ k => XT.acmpNo X181.here hx rfl (hb hby at_146) rfl rfl rfl (XT.aa_ne_f (congrArg Value.ref rfl)) k) ?_
        show own_Go p e below s _ _ _ (T181.setTop (mkF m 149 #[.val (.long p1), .second, .val (.int p2), .val (.int p3), .val (.int p4), .val (.int (p2 &&& (3 : Int32))), .val (.ref b149), .val (.int (1 : Int32)), .val .null, .val (.ref b163), .val (.long (p1 - ((1 : Int32).toInt64))), .second] []))
        refine own_st (fun _ k => XT.iconstV X181.here hx rfl (1 : Int32) (hb hby at_149) (by decide) k) ?_
        show own_Go p e below s _ _ _ (T181.setTop (mkF m 150 #[.val (.long p1), .second, .val (.int p2), .val (.int p3), .val (.int p4), .val (.int (p2 &&& (3 : Int32))), .val (.ref b149), .val (.int (1 : Int32)), .val .null, .val (.ref b163), .val (.long (p1 - ((1 : Int32).toInt64))), .second] [(.int (1 : Int32))]))
        refine own_st (fun _ k => XS.goto X181.here hx rfl (pc0 := 150) (pc' := 154) rfl (hb hby at_150) (by decide) (by decide) k) ?_
        show own_Go p e below s _ _ _ (T181.setTop (mkF m 154 #[.val (.long p1), .second, .val (.int p2), .val (.int p3), .val (.int p4), .val (.int (p2 &&& (3 : Int32))), .val (.ref b149), .val (.int (1 : Int32)), .val .null, .val (.ref b163), .val (.long (p1 - ((1 : Int32).toInt64))), .second] [(.int (1 : Int32))]))
        refine own_retN X181 hx hlk Bd.returns (t := .boolean) (z' := (1 : Int32)) (by simp) (by decide) (hb hby at_154) (by decide) (by decide) ?_
        rw [eh181]
        exact ⟨N182, rfl⟩
      · refine own_st (fun _ k => XS.ifYes X158.here hx rfl (pc0 := 84) (pc' := 91) rfl (hb hby at_84) rfl (XT.i0_ne_t hc162) (by decide) (by decide) k) ?_
        show own_Go p e below s _ _ _ (T158.setTop (mkF m 91 #[.val (.long p1), .second, .val (.int p2), .val (.int p3), .val (.int p4), .val (.int (p2 &&& (3 : Int32))), .val (.ref b149), .val (.int (1 : Int32)), .unset, .unset, .unset, .unset] []))
        refine own_st (fun _ k => XS.iloadN X158.here hx rfl (hb hby at_91) rfl k) ?_
        show own_Go p e below s _ _ _ (T158.setTop (mkF m 92 #[.val (.long p1), .second, .val (.int p2), .val (.int p3), .val (.int p4), .val (.int (p2 &&& (3 : Int32))), .val (.ref b149), .val (.int (1 : Int32)), .unset, .unset, .unset, .unset] [(.int p3)]))
        have O184 : Old Z n0 h158 := (((O0.ext E149).wr W154 g151).wr W158 g151)
        obtain ⟨_, _, ⟨T183, L183, k183, n183⟩, -, X183, ⟨Lc183, hQ183, l183, y183, z183⟩, st183⟩ := Jvm.LawKit.callS X158 hx (y := (⟨"java/lang/Integer", "valueOf", "(I)Ljava/lang/Integer;"⟩ : MethodName)) hown (mvT hZ (hw _ (List.mem_of_getElem? (i := 1) rfl))) (mvT hZ (hw _ (List.mem_of_getElem? (i := 2) rfl))) (mvT hZ (hw _ (List.mem_of_getElem? (i := 3) rfl))) (mvT hZ (hw _ (List.mem_of_getElem? (i := 4) rfl))) (by decide) (backOf (W := 0) (own_rm_valueOfI l Z a0 hw [] p3 a_cacheI h158 n0 Zs161 O184 S_cacheI BxI S_high) hZ (hw _ (List.mem_of_getElem? (i := 4) rfl)) (hw _ (List.mem_of_getElem? (i := 3) rfl)) (by decide) (by decide)) (g := (mkF m 92 #[.val (.long p1), .second, .val (.int p2), .val (.int p3), .val (.int p4), .val (.int (p2 &&& (3 : Int32))), .val (.ref b149), .val (.int (1 : Int32)), .unset, .unset, .unset, .unset] [(.int p3)])) rfl (by rw [hml]; rfl) (argsL := [(.int p3)]) (rest := []) (lenOf own_pd5 rfl) rfl (by show 2 * 0 + _ ≤ _; exact Nat.le_of_eq rfl) (hb hby at_92) (fun _ _ => ⟨rfl, e158, (by decide : 1 + 1 ≤ _), (by decide : 1 + 1 ≤ _)⟩)
        dsimp only [Pt.U, Pt.locs, Pt.cells, Pt.slots] at X183 l183 y183 z183 st183 hQ183
        subst l183 y183 z183
        obtain ⟨x185, N183q, rfl, K183, q186, q187⟩ := hQ183
        have N188 := Fr.app N159 N183q
        refine own_st st183 ?_
        have Zs189 : n0 ≤ T183.heap.size := Nat.le_trans Zs161 K183.1
        show own_Go p e below s _ _ _ (T183.setTop (mkF m 95 #[.val (.long p1), .second, .val (.int p2), .val (.int p3), .val (.int p4), .val (.int (p2 &&& (3 : Int32))), .val (.ref b149), .val (.int (1 : Int32)), .unset, .unset, .unset, .unset] [(.ref x185)]))
        refine own_st (fun _ k => XS.astore X183.here hx rfl (hb hby at_95) rfl rfl (l' := #[.val (.long p1), .second, .val (.int p2), .val (.int p3), .val (.int p4), .val (.int (p2 &&& (3 : Int32))), .val (.ref b149), .val (.int (1 : Int32)), .val (.ref x185), .unset, .unset, .unset]) rfl k) ?_
        show own_Go p e below s _ _ _ (T183.setTop (mkF m 97 #[.val (.long p1), .second, .val (.int p2), .val (.int p3), .val (.int p4), .val (.int (p2 &&& (3 : Int32))), .val (.ref b149), .val (.int (1 : Int32)), .val (.ref x185), .unset, .unset, .unset] []))
        obtain ⟨T190, h190, X190, e190, E190, A190, D190, -, st190⟩ := newO X183 hx hZ hown (hw _ (List.mem_of_getElem? (i := 8) rfl)) (hw _ (List.mem_of_getElem? (i := 9) rfl)) (hw _ (List.mem_of_getElem? (i := 10) rfl)) rfl (g := (mkF m 97 #[.val (.long p1), .second, .val (.int p2), .val (.int p3), .val (.int p4), .val (.int (p2 &&& (3 : Int32))), .val (.ref b149), .val (.int (1 : Int32)), .val (.ref x185), .unset, .unset, .unset] [])) rfl (hb hby at_97) (by decide) (by decide)
        obtain ⟨b190, g190⟩ : ∃ z, z = T183.heap.size := ⟨_, rfl⟩
        rw [← g190] at A190 D190 st190
        refine own_st st190 ?_
        have Zs191 : n0 ≤ h190.size := Nat.le_trans Zs189 E190.1
        have g192 : n0 ≤ b190 := Nat.le_trans Zs189 (Nat.le_of_eq g190.symm)
        have F193 : Fld Z h190 b190 "com/example/wache/wache/ListFile$Mark" "fileKey" "Ljava/lang/Object;" .null := D190 (Or.inr (hw _ (List.mem_of_getElem? (i := 23) rfl))) (ty := (.object "java/lang/Object")) (by decide)
        have F194 : Fld Z h190 b190 "com/example/wache/wache/ListFile$Mark" "offset" "J" (.long (0 : Int64)) := D190 (Or.inr (hw _ (List.mem_of_getElem? (i := 25) rfl))) (ty := .long) (by decide)
        have F195 : Fld Z h190 b190 "com/example/wache/wache/ListFile$Mark" "lastLine" "[B" .null := D190 (Or.inr (hw _ (List.mem_of_getElem? (i := 27) rfl))) (ty := (.array .byte)) (by decide)
        show own_Go p e below s _ _ _ (T190.setTop (mkF m 100 #[.val (.long p1), .second, .val (.int p2), .val (.int p3), .val (.int p4), .val (.int (p2 &&& (3 : Int32))), .val (.ref b149), .val (.int (1 : Int32)), .val (.ref x185), .unset, .unset, .unset] [(.ref b190)]))
        refine own_st (fun _ k => XS.dup X190.here hx rfl (hb hby at_100) rfl rfl k) ?_
        show own_Go p e below s _ _ _ (T190.setTop (mkF m 101 #[.val (.long p1), .second, .val (.int p2), .val (.int p3), .val (.int p4), .val (.int (p2 &&& (3 : Int32))), .val (.ref b149), .val (.int (1 : Int32)), .val (.ref x185), .unset, .unset, .unset] [(.ref b190), (.ref b190)]))
        refine own_st (fun _ k => XS.aload X190.here hx rfl (hb hby at_101) rfl rfl k) ?_
        show own_Go p e below s _ _ _ (T190.setTop (mkF m 103 #[.val (.long p1), .second, .val (.int p2), .val (.int p3), .val (.int p4), .val (.int (p2 &&& (3 : Int32))), .val (.ref b149), .val (.int (1 : Int32)), .val (.ref x185), .unset, .unset, .unset] [(.ref x185), (.ref b190), (.ref b190)]))
        refine own_st (fun _ k => XT.lloadN X190.here hx rfl (hb hby at_103) rfl k) ?_
        show own_Go p e below s _ _ _ (T190.setTop (mkF m 104 #[.val (.long p1), .second, .val (.int p2), .val (.int p3), .val (.int p4), .val (.int (p2 &&& (3 : Int32))), .val (.ref b149), .val (.int (1 : Int32)), .val (.ref x185), .unset, .unset, .unset] [(.long p1), (.ref x185), (.ref b190), (.ref b190)]))
        refine own_st (fun _ k => XS.aload X190.here hx rfl (hb hby at_104) rfl rfl k) ?_
        show own_Go p e below s _ _ _ (T190.setTop (mkF m 106 #[.val (.long p1), .second, .val (.int p2), .val (.int p3), .val (.int p4), .val (.int (p2 &&& (3 : Int32))), .val (.ref b149), .val (.int (1 : Int32)), .val (.ref x185), .unset, .unset, .unset] [(.ref b149), (.long p1), (.ref x185), (.ref b190), (.ref b190)]))
        obtain ⟨_, _, ⟨T196, L196, k196, n196⟩, -, X196, ⟨Lc196, hQ196, l196, y196, z196⟩, st196⟩ := X190.specialBack hx (y := (⟨"com/example/wache/wache/ListFile$Mark", "<init>", "(Ljava/lang/Object;J[B)V"⟩ : MethodName)) rfl hown (mvT hZ (hw _ (List.mem_of_getElem? (i := 11) rfl))) (mvT hZ (hw _ (List.mem_of_getElem? (i := 12) rfl))) (mvT hZ (hw _ (List.mem_of_getElem? (i := 13) rfl))) (by decide) (backOf (W := 1) (own_rm_initR l Z a0 hw [] b190 x185 p1 b149 h190 n0 Zs191 A190 F193 F194 F195 g192) hZ (hw _ (List.mem_of_getElem? (i := 13) rfl)) (hw _ (List.mem_of_getElem? (i := 10) rfl)) (by decide) (by decide)) (g := (mkF m 106 #[.val (.long p1), .second, .val (.int p2), .val (.int p3), .val (.int p4), .val (.int (p2 &&& (3 : Int32))), .val (.ref b149), .val (.int (1 : Int32)), .val (.ref x185), .unset, .unset, .unset] [(.ref b149), (.long p1), (.ref x185), (.ref b190), (.ref b190)])) rfl (by rw [hml]; rfl) (Steps.refl _) (a := b190) (argsL := [(.ref x185), (.long p1), (.ref b149)]) (rest := [(.ref b190)]) (lenOf own_pd2 rfl) rfl (by show 2 * 0 + _ ≤ _; exact Nat.le_of_eq rfl) (hb hby at_106) (fun _ _ => ⟨rfl, e190, (by decide : 3 + 0 ≤ _), (by decide : 5 + 0 ≤ _)⟩)
        dsimp only [Pt.U, Pt.locs, Pt.cells, Pt.slots] at X196 l196 y196 z196 st196 hQ196
        subst l196 y196 z196
        obtain ⟨N196q, rfl, K196, q197, q198, q199⟩ := hQ196
        have N200 := Fr.app N188 N196q
        refine own_tr st196 ?_
        have Zs201 : n0 ≤ T196.heap.size := Nat.le_trans Zs191 K196.1
        show own_Go p e below s _ _ _ (T196.setTop (mkF m 109 #[.val (.long p1), .second, .val (.int p2), .val (.int p3), .val (.int p4), .val (.int (p2 &&& (3 : Int32))), .val (.ref b149), .val (.int (1 : Int32)), .val (.ref x185), .unset, .unset, .unset] [(.ref b190)]))
        refine own_st (fun _ k => XS.astore X196.here hx rfl (hb hby at_109) rfl rfl (l' := #[.val (.long p1), .second, .val (.int p2), .val (.int p3), .val (.int p4), .val (.int (p2 &&& (3 : Int32))), .val (.ref b149), .val (.int (1 : Int32)), .val (.ref x185), .val (.ref b190), .unset, .unset]) rfl k) ?_
        show own_Go p e below s _ _ _ (T196.setTop (mkF m 111 #[.val (.long p1), .second, .val (.int p2), .val (.int p3), .val (.int p4), .val (.int (p2 &&& (3 : Int32))), .val (.ref b149), .val (.int (1 : Int32)), .val (.ref x185), .val (.ref b190), .unset, .unset] []))
        refine own_st (fun _ k => XS.aload X196.here hx rfl (hb hby at_111) rfl rfl k) ?_
        show own_Go p e below s _ _ _ (T196.setTop (mkF m 113 #[.val (.long p1), .second, .val (.int p2), .val (.int p3), .val (.int p4), .val (.int (p2 &&& (3 : Int32))), .val (.ref b149), .val (.int (1 : Int32)), .val (.ref x185), .val (.ref b190), .unset, .unset] [(.ref b190)]))
        have ne203 : b149 ≠ b190 := Nat.ne_of_lt (Nat.lt_of_lt_of_le (Nat.lt_of_lt_of_le A149.lt (Nat.le_trans (Nat.le_trans (Nat.le_of_eq W154.size.symm) (Nat.le_of_eq W158.size.symm)) K183.1)) (Nat.le_of_eq g190.symm))
        have F204 : Arv Z T196.heap b149 k149 .byte (1 : Int32) [(.int (nar .byte (p4.toInt8.toInt32)))] (.int (0 : Int32)) := (((F160.keep K183 nin0).ext E190).keep K196 (ninS ne203 nin0))
        obtain ⟨cq202, kq202, q202a, q202b, q202c⟩ := isOf hZ rfl q197
        obtain ⟨_, _, ⟨T202, L202, k202, n202⟩, -, X202, ⟨Lc202, hQ202, l202, y202, z202⟩, st202⟩ := X196.virtualBack hx (y := (⟨"com/example/wache/wache/ListFile$Mark", "lastLineStart", "()J"⟩ : MethodName)) (z := (⟨"com/example/wache/wache/ListFile$Mark", "lastLineStart", "()J"⟩ : MethodName)) hown (mvT hZ (hw _ (List.mem_of_getElem? (i := 28) rfl))) (mvT hZ (hw _ (List.mem_of_getElem? (i := 29) rfl))) (notFace_of_selects (args := #[]) (mvT hZ (hw _ (List.mem_of_getElem? (i := 31) rfl)))) (mvT hZ (hw _ (List.mem_of_getElem? (i := 31) rfl))) (mvT hZ (hw _ (List.mem_of_getElem? (i := 30) rfl))) (by decide) (backOf (W := 0) (own_rm_lls l Z a0 hw [] b190 p1 b149 k149 (1 : Int32) [(.int (nar .byte (p4.toInt8.toInt32)))] T196.heap n0 Zs201 q198 q199 F204) hZ (hw _ (List.mem_of_getElem? (i := 32) rfl)) (hw _ (List.mem_of_getElem? (i := 10) rfl)) (by decide) (by decide)) q202a q202c (g := (mkF m 113 #[.val (.long p1), .second, .val (.int p2), .val (.int p3), .val (.int p4), .val (.int (p2 &&& (3 : Int32))), .val (.ref b149), .val (.int (1 : Int32)), .val (.ref x185), .val (.ref b190), .unset, .unset] [(.ref b190)])) rfl (by rw [hml]; rfl) (Steps.refl _) (argsL := []) (rest := []) (lenOf own_pd3 rfl) rfl (by show 2 * 0 + _ ≤ _; exact Nat.le_of_eq rfl) (hb hby at_113) (fun _ _ => ⟨rfl, rfl, (by decide : 3 + 0 ≤ _), (by decide : 5 + 0 ≤ _)⟩)
        dsimp only [Pt.U, Pt.locs, Pt.cells, Pt.slots] at X202 l202 y202 z202 st202 hQ202
        subst l202 y202 z202
        obtain ⟨N202q, rfl, eh202⟩ := hQ202
        have N205 := Fr.app N200 N202q
        refine own_tr st202 ?_
        show own_Go p e below s _ _ _ (T202.setTop (mkF m 116 #[.val (.long p1), .second, .val (.int p2), .val (.int p3), .val (.int p4), .val (.int (p2 &&& (3 : Int32))), .val (.ref b149), .val (.int (1 : Int32)), .val (.ref x185), .val (.ref b190), .unset, .unset] [(.long (p1 - ((1 : Int32).toInt64)))]))
        refine own_st (fun _ k => XT.lstore X202.here hx rfl (hb hby at_116) rfl (l' := #[.val (.long p1), .second, .val (.int p2), .val (.int p3), .val (.int p4), .val (.int (p2 &&& (3 : Int32))), .val (.ref b149), .val (.int (1 : Int32)), .val (.ref x185), .val (.ref b190), .val (.long (p1 - ((1 : Int32).toInt64))), .second]) rfl k) ?_
        show own_Go p e below s _ _ _ (T202.setTop (mkF m 118 #[.val (.long p1), .second, .val (.int p2), .val (.int p3), .val (.int p4), .val (.int (p2 &&& (3 : Int32))), .val (.ref b149), .val (.int (1 : Int32)), .val (.ref x185), .val (.ref b190), .val (.long (p1 - ((1 : Int32).toInt64))), .second] []))
        refine own_st (fun _ k => XT.lload X202.here hx rfl (hb hby at_118) rfl k) ?_
        show own_Go p e below s _ _ _ (T202.setTop (mkF m 120 #[.val (.long p1), .second, .val (.int p2), .val (.int p3), .val (.int p4), .val (.int (p2 &&& (3 : Int32))), .val (.ref b149), .val (.int (1 : Int32)), .val (.ref x185), .val (.ref b190), .val (.long (p1 - ((1 : Int32).toInt64))), .second] [(.long (p1 - ((1 : Int32).toInt64)))]))
        refine own_st (fun _ k => XS.iload X202.here hx rfl (hb hby at_120) rfl k) ?_
        show own_Go p e below s _ _ _ (T202.setTop (mkF m 122 #[.val (.long p1), .second, .val (.int p2), .val (.int p3), .val (.int p4), .val (.int (p2 &&& (3 : Int32))), .val (.ref b149), .val (.int (1 : Int32)), .val (.ref x185), .val (.ref b190), .val (.long (p1 - ((1 : Int32).toInt64))), .second] [(.int (1 : Int32)), (.long (p1 - ((1 : Int32).toInt64)))]))
        refine own_st (fun _ k => XT.i2l X202.here hx rfl (hb hby at_122) rfl k) ?_
        show own_Go p e below s _ _ _ (T202.setTop (mkF m 123 #[.val (.long p1), .second, .val (.int p2), .val (.int p3), .val (.int p4), .val (.int (p2 &&& (3 : Int32))), .val (.ref b149), .val (.int (1 : Int32)), .val (.ref x185), .val (.ref b190), .val (.long (p1 - ((1 : Int32).toInt64))), .second] [(.long ((1 : Int32).toInt64)), (.long (p1 - ((1 : Int32).toInt64)))]))
        refine own_st (fun _ k => XT.ladd X202.here hx rfl (hb hby at_123) rfl k) ?_
        show own_Go p e below s _ _ _ (T202.setTop (mkF m 124 #[.val (.long p1), .second, .val (.int p2), .val (.int p3), .val (.int p4), .val (.int (p2 &&& (3 : Int32))), .val (.ref b149), .val (.int (1 : Int32)), .val (.ref x185), .val (.ref b190), .val (.long (p1 - ((1 : Int32).toInt64))), .second] [(.long ((p1 - ((1 : Int32).toInt64)) + ((1 : Int32).toInt64)))]))
        refine own_st (fun _ k => XT.lloadN X202.here hx rfl (hb hby at_124) rfl k) ?_
        show own_Go p e below s _ _ _ (T202.setTop (mkF m 125 #[.val (.long p1), .second, .val (.int p2), .val (.int p3), .val (.int p4), .val (.int (p2 &&& (3 : Int32))), .val (.ref b149), .val (.int (1 : Int32)), .val (.ref x185), .val (.ref b190), .val (.long (p1 - ((1 : Int32).toInt64))), .second] [(.long p1), (.long ((p1 - ((1 : Int32).toInt64)) + ((1 : Int32).toInt64)))]))
        refine own_st (fun _ k => XT.lcmp X202.here hx rfl (hb hby at_125) rfl k) ?_
        show own_Go p e below s _ _ _ (T202.setTop (mkF m 126 #[.val (.long p1), .second, .val (.int p2), .val (.int p3), .val (.int p4), .val (.int (p2 &&& (3 : Int32))), .val (.ref b149), .val (.int (1 : Int32)), .val (.ref x185), .val (.ref b190), .val (.long (p1 - ((1 : Int32).toInt64))), .second] [(.int (XT.cmpL ((p1 - ((1 : Int32).toInt64)) + ((1 : Int32).toInt64)) p1))]))
        refine own_st (fun _ k => XS.ifNo X202.here hx rfl (hb hby at_126) rfl (XT.ll_ne_f (by simp)) k) ?_
        show own_Go p e below s _ _ _ (T202.setTop (mkF m 129 #[.val (.long p1), .second, .val (.int p2), .val (.int p3), .val (.int p4), .val (.int (p2 &&& (3 : Int32))), .val (.ref b149), .val (.int (1 : Int32)), .val (.ref x185), .val (.ref b190), .val (.long (p1 - ((1 : Int32).toInt64))), .second] []))
        refine own_st (fun _ k => XS.aload X202.here hx rfl (hb hby at_129) rfl rfl k) ?_
        show own_Go p e below s _ _ _ (T202.setTop (mkF m 131 #[.val (.long p1), .second, .val (.int p2), .val (.int p3), .val (.int p4), .val (.int (p2 &&& (3 : Int32))), .val (.ref b149), .val (.int (1 : Int32)), .val (.ref x185), .val (.ref b190), .val (.long (p1 - ((1 : Int32).toInt64))), .second] [(.ref b190)]))
        obtain ⟨cq206, kq206, q206a, q206b, q206c⟩ := isOf hZ eh202 q197
        obtain ⟨_, _, ⟨T206, L206, k206, n206⟩, -, X206, ⟨Lc206, hQ206, l206, y206, z206⟩, st206⟩ := X202.virtualBack hx (y := (⟨"com/example/wache/wache/ListFile$Mark", "offset", "()J"⟩ : MethodName)) (z := (⟨"com/example/wache/wache/ListFile$Mark", "offset", "()J"⟩ : MethodName)) hown (mvT hZ (hw _ (List.mem_of_getElem? (i := 33) rfl))) (mvT hZ (hw _ (List.mem_of_getElem? (i := 34) rfl))) (notFace_of_selects (args := #[]) (mvT hZ (hw _ (List.mem_of_getElem? (i := 36) rfl)))) (mvT hZ (hw _ (List.mem_of_getElem? (i := 36) rfl))) (mvT hZ (hw _ (List.mem_of_getElem? (i := 35) rfl))) (by decide) (backOf (W := 0) (own_rm_offset l Z a0 hw [] b190 p1 T196.heap n0 Zs201 q198) hZ (hw _ (List.mem_of_getElem? (i := 37) rfl)) (hw _ (List.mem_of_getElem? (i := 10) rfl)) (by decide) (by decide)) q206a q206c (g := (mkF m 131 #[.val (.long p1), .second, .val (.int p2), .val (.int p3), .val (.int p4), .val (.int (p2 &&& (3 : Int32))), .val (.ref b149), .val (.int (1 : Int32)), .val (.ref x185), .val (.ref b190), .val (.long (p1 - ((1 : Int32).toInt64))), .second] [(.ref b190)])) rfl (by rw [hml]; rfl) (Steps.refl _) (argsL := []) (rest := []) (lenOf own_pd3 rfl) rfl (by show 2 * 0 + _ ≤ _; exact Nat.le_of_eq rfl) (hb hby at_131) (fun _ _ => ⟨rfl, eh202, (by decide : 3 + 0 ≤ _), (by decide : 5 + 0 ≤ _)⟩)
        dsimp only [Pt.U, Pt.locs, Pt.cells, Pt.slots] at X206 l206 y206 z206 st206 hQ206
        subst l206 y206 z206
        obtain ⟨N206q, rfl, eh206⟩ := hQ206
        have N207 := Fr.app N205 N206q
        refine own_tr st206 ?_
        show own_Go p e below s _ _ _ (T206.setTop (mkF m 134 #[.val (.long p1), .second, .val (.int p2), .val (.int p3), .val (.int p4), .val (.int (p2 &&& (3 : Int32))), .val (.ref b149), .val (.int (1 : Int32)), .val (.ref x185), .val (.ref b190), .val (.long (p1 - ((1 : Int32).toInt64))), .second] [(.long p1)]))
        refine own_st (fun _ k => XT.lloadN X206.here hx rfl (hb hby at_134) rfl k) ?_
        show own_Go p e below s _ _ _ (T206.setTop (mkF m 135 #[.val (.long p1), .second, .val (.int p2), .val (.int p3), .val (.int p4), .val (.int (p2 &&& (3 : Int32))), .val (.ref b149), .val (.int (1 : Int32)), .val (.ref x185), .val (.ref b190), .val (.long (p1 - ((1 : Int32).toInt64))), .second] [(.long p1), (.long p1)]))
        refine own_st (fun _ k => XT.lcmp X206.here hx rfl (hb hby at_135) rfl k) ?_
        show own_Go p e below s _ _ _ (T206.setTop (mkF m 136 #[.val (.long p1), .second, .val (.int p2), .val (.int p3), .val (.int p4), .val (.int (p2 &&& (3 : Int32))), .val (.ref b149), .val (.int (1 : Int32)), .val (.ref x185), .val (.ref b190), .val (.long (p1 - ((1 : Int32).toInt64))), .second] [(.int (XT.cmpL p1 p1))]))
        refine own_st (fun _ k => XS.ifNo X206.here hx rfl (hb hby at_136) rfl (XT.ll_ne_f rfl) k) ?_
        show own_Go p e below s _ _ _ (T206.setTop (mkF m 139 #[.val (.long p1), .second, .val (.int p2), .val (.int p3), .val (.int p4), .val (.int (p2 &&& (3 : Int32))), .val (.ref b149), .val (.int (1 : Int32)), .val (.ref x185), .val (.ref b190), .val (.long (p1 - ((1 : Int32).toInt64))), .second] []))
        refine own_st (fun _ k => XS.aload X206.here hx rfl (hb hby at_139) rfl rfl k) ?_
        show own_Go p e below s _ _ _ (T206.setTop (mkF m 141 #[.val (.long p1), .second, .val (.int p2), .val (.int p3), .val (.int p4), .val (.int (p2 &&& (3 : Int32))), .val (.ref b149), .val (.int (1 : Int32)), .val (.ref x185), .val (.ref b190), .val (.long (p1 - ((1 : Int32).toInt64))), .second] [(.ref b190)]))
        obtain ⟨cq208, kq208, q208a, q208b, q208c⟩ := isOf hZ eh206 q197
        obtain ⟨_, _, ⟨T208, L208, k208, n208⟩, -, X208, ⟨Lc208, hQ208, l208, y208, z208⟩, st208⟩ := X206.virtualBack hx (y := (⟨"com/example/wache/wache/ListFile$Mark", "lastLine", "()[B"⟩ : MethodName)) (z := (⟨"com/example/wache/wache/ListFile$Mark", "lastLine", "()[B"⟩ : MethodName)) hown (mvT hZ (hw _ (List.mem_of_getElem? (i := 38) rfl))) (mvT hZ (hw _ (List.mem_of_getElem? (i := 39) rfl))) (notFace_of_selects (args := #[]) (mvT hZ (hw _ (List.mem_of_getElem? (i := 41) rfl)))) (mvT hZ (hw _ (List.mem_of_getElem? (i := 41) rfl))) (mvT hZ (hw _ (List.mem_of_getElem? (i := 40) rfl))) (by decide) (backOf (W := 0) (own_rm_lastLine l Z a0 hw [] b190 b149 T196.heap n0 Zs201 q199) hZ (hw _ (List.mem_of_getElem? (i := 42) rfl)) (hw _ (List.mem_of_getElem? (i := 10) rfl)) (by decide) (by decide)) q208a q208c (g := (mkF m 141 #[.val (.long p1), .second, .val (.int p2), .val (.int p3), .val (.int p4), .val (.int (p2 &&& (3 : Int32))), .val (.ref b149), .val (.int (1 : Int32)), .val (.ref x185), .val (.ref b190), .val (.long (p1 - ((1 : Int32).toInt64))), .second] [(.ref b190)])) rfl (by rw [hml]; rfl) (Steps.refl _) (argsL := []) (rest := []) (lenOf own_pd4 rfl) rfl (by show 2 * 0 + _ ≤ _; exact Nat.le_of_eq rfl) (hb hby at_141) (fun _ _ => ⟨rfl, eh206, (by decide : 3 + 0 ≤ _), (by decide : 5 + 0 ≤ _)⟩)
        dsimp only [Pt.U, Pt.locs, Pt.cells, Pt.slots] at X208 l208 y208 z208 st208 hQ208
        subst l208 y208 z208
        obtain ⟨N208q, rfl, eh208⟩ := hQ208
        have N209 := Fr.app N207 N208q
        refine own_tr st208 ?_
        show own_Go p e below s _ _ _ (T208.setTop (mkF m 144 #[.val (.long p1), .second, .val (.int p2), .val (.int p3), .val (.int p4), .val (.int (p2 &&& (3 : Int32))), .val (.ref b149), .val (.int (1 : Int32)), .val (.ref x185), .val (.ref b190), .val (.long (p1 - ((1 : Int32).toInt64))), .second] [(.ref b149)]))
        refine own_st (fun _ k => XS.aload X208.here hx rfl (hb hby at_144) rfl rfl k) ?_
        show own_Go p e below s _ _ _ (T208.setTop (mkF m 146 #[.val (.long p1), .second, .val (.int p2), .val (.int p3), .val (.int p4), .val (.int (p2 &&& (3 : Int32))), .val (.ref b149), .val (.int (1 : Int32)), .val (.ref x185), .val (.ref b190), .val (.long (p1 - ((1 : Int32).toInt64))), .second] [(.ref b149), (.ref b149)]))
        refine own_st (fun _ k => XT.acmpNo X208.here hx rfl (hb hby at_146) rfl rfl rfl (XT.aa_ne_f (congrArg Value.ref rfl)) k) ?_
        show own_Go p e below s _ _ _ (T208.setTop (mkF m 149 #[.val (.long p1), .second, .val (.int p2), .val (.int p3), .val (.int p4), .val (.int (p2 &&& (3 : Int32))), .val (.ref b149), .val (.int (1 : Int32)), .val (.ref x185), .val (.ref b190), .val (.long (p1 - ((1 : Int32).toInt64))), .second] []))
        refine own_st (fun _ k => XT.iconstV X208.here hx rfl (1 : Int32) (hb hby at_149) (by decide) k) ?_
        show own_Go p e below s _ _ _ (T208.setTop (mkF m 150 #[.val (.long p1), .second, .val (.int p2), .val (.int p3), .val (.int p4), .val (.int (p2 &&& (3 : Int32))), .val (.ref b149), .val (.int (1 : Int32)), .val (.ref x185), .val (.ref b190), .val (.long (p1 - ((1 : Int32).toInt64))), .second] [(.int (1 : Int32))]))
        refine own_st (fun _ k => XS.goto X208.here hx rfl (pc0 := 150) (pc' := 154) rfl (hb hby at_150) (by decide) (by decide) k) ?_
        show own_Go p e below s _ _ _ (T208.setTop (mkF m 154 #[.val (.long p1), .second, .val (.int p2), .val (.int p3), .val (.int p4), .val (.int (p2 &&& (3 : Int32))), .val (.ref b149), .val (.int (1 : Int32)), .val (.ref x185), .val (.ref b190), .val (.long (p1 - ((1 : Int32).toInt64))), .second] [(.int (1 : Int32))]))
        refine own_retN X208 hx hlk Bd.returns (t := .boolean) (z' := (1 : Int32)) (by simp) (by decide) (hb hby at_154) (by decide) (by decide) ?_
        rw [eh208]
        exact ⟨N209, rfl⟩
    · refine own_st (fun _ k => XS.icmpYes X0.here hx rfl (pc0 := 21) (pc' := 32) rfl (hb hby at_21) rfl (XT.ii_ne_t hc148) (by decide) (by decide) k) ?_
      show own_Go p e below s _ _ _ (s₁.setTop (mkF m 32 #[.val (.long p1), .second, .val (.int p2), .val (.int p3), .val (.int p4), .val (.int (p2 &&& (3 : Int32))), .unset, .unset, .unset, .unset, .unset, .unset] []))
      refine own_st (fun _ k => XS.iload X0.here hx rfl (hb hby at_32) rfl k) ?_
      show own_Go p e below s _ _ _ (s₁.setTop (mkF m 34 #[.val (.long p1), .second, .val (.int p2), .val (.int p3), .val (.int p4), .val (.int (p2 &&& (3 : Int32))), .unset, .unset, .unset, .unset, .unset, .unset] [(.int (p2 &&& (3 : Int32)))]))
      refine own_st (fun _ k => XT.iconstV X0.here hx rfl (2 : Int32) (hb hby at_34) (by decide) k) ?_
      show own_Go p e below s _ _ _ (s₁.setTop (mkF m 35 #[.val (.long p1), .second, .val (.int p2), .val (.int p3), .val (.int p4), .val (.int (p2 &&& (3 : Int32))), .unset, .unset, .unset, .unset, .unset, .unset] [(.int (2 : Int32)), (.int (p2 &&& (3 : Int32)))]))
      by_cases hc210 : (p2 &&& (3 : Int32)) = (2 : Int32)
      · refine own_st (fun _ k => XS.icmpNo X0.here hx rfl (hb hby at_35) rfl (XT.ii_ne_f hc210) k) ?_
        show own_Go p e below s _ _ _ (s₁.setTop (mkF m 38 #[.val (.long p1), .second, .val (.int p2), .val (.int p3), .val (.int p4), .val (.int (p2 &&& (3 : Int32))), .unset, .unset, .unset, .unset, .unset, .unset] []))
        refine own_st (fun _ k => XT.iconstV X0.here hx rfl (2 : Int32) (hb hby at_38) (by decide) k) ?_
        show own_Go p e below s _ _ _ (s₁.setTop (mkF m 39 #[.val (.long p1), .second, .val (.int p2), .val (.int p3), .val (.int p4), .val (.int (p2 &&& (3 : Int32))), .unset, .unset, .unset, .unset, .unset, .unset] [(.int (2 : Int32))]))
        obtain ⟨T211, h211, k211, X211, e211, E211, A211, Ea211, st211⟩ := newPE X0 hx hZ (aty := .byte) (hw _ (List.mem_of_getElem? (i := 0) rfl)) e0 (g := (mkF m 39 #[.val (.long p1), .second, .val (.int p2), .val (.int p3), .val (.int p4), .val (.int (p2 &&& (3 : Int32))), .unset, .unset, .unset, .unset, .unset, .unset] [(.int (2 : Int32))])) rfl (hb hby at_39) rfl (by decide) (cap := 2) (by decide) (by decide) (by decide) (by decide) (ad := "[B") (by decide +kernel)
        obtain ⟨b211, g211⟩ : ∃ z, z = h0.size := ⟨_, rfl⟩
        rw [← g211] at A211 Ea211 st211
        refine own_st st211 ?_
        have Zs212 : n0 ≤ h211.size := Nat.le_trans Z0 E211.1
        have g213 : n0 ≤ b211 := Nat.le_trans Z0 (Nat.le_of_eq g211.symm)
        have F214 : Arv Z h211 b211 k211 .byte (2 : Int32) [(.int (0 : Int32)), (.int (0 : Int32))] (.int (0 : Int32)) := (Arv.new A211 (by decide)).pad (fun i => own_pad 2 _ i)
        show own_Go p e below s _ _ _ (T211.setTop (mkF m 41 #[.val (.long p1), .second, .val (.int p2), .val (.int p3), .val (.int p4), .val (.int (p2 &&& (3 : Int32))), .unset, .unset, .unset, .unset, .unset, .unset] [(.ref b211)]))
        refine own_st (fun _ k => XS.astore X211.here hx rfl (hb hby at_41) rfl rfl (l' := #[.val (.long p1), .second, .val (.int p2), .val (.int p3), .val (.int p4), .val (.int (p2 &&& (3 : Int32))), .val (.ref b211), .unset, .unset, .unset, .unset, .unset]) rfl k) ?_
        show own_Go p e below s _ _ _ (T211.setTop (mkF m 43 #[.val (.long p1), .second, .val (.int p2), .val (.int p3), .val (.int p4), .val (.int (p2 &&& (3 : Int32))), .val (.ref b211), .unset, .unset, .unset, .unset, .unset] []))
        refine own_st (fun _ k => XS.goto X211.here hx rfl (pc0 := 43) (pc' := 51) rfl (hb hby at_43) (by decide) (by decide) k) ?_
        show own_Go p e below s _ _ _ (T211.setTop (mkF m 51 #[.val (.long p1), .second, .val (.int p2), .val (.int p3), .val (.int p4), .val (.int (p2 &&& (3 : Int32))), .val (.ref b211), .unset, .unset, .unset, .unset, .unset] []))
        refine own_st (fun _ k => XS.aload X211.here hx rfl (hb hby at_51) rfl rfl k) ?_
        show own_Go p e below s _ _ _ (T211.setTop (mkF m 53 #[.val (.long p1), .second, .val (.int p2), .val (.int p3), .val (.int p4), .val (.int (p2 &&& (3 : Int32))), .val (.ref b211), .unset, .unset, .unset, .unset, .unset] [(.ref b211)]))
        obtain ⟨cl215, Ar215, -, S215, N215, -, -⟩ := id F214
        refine own_st (fun _ k => X211.arraylength hx (by rw [e211]; exact Ar215.1) (State.isArrayOf_alike hZ.alike Ar215.2.1) (g := (mkF m 53 #[.val (.long p1), .second, .val (.int p2), .val (.int p3), .val (.int p4), .val (.int (p2 &&& (3 : Int32))), .val (.ref b211), .unset, .unset, .unset, .unset, .unset] [(.ref b211)])) rfl rfl (hb hby at_53) _ k) ?_
        rw [len_of S215 N215]
        show own_Go p e below s _ _ _ (T211.setTop (mkF m 54 #[.val (.long p1), .second, .val (.int p2), .val (.int p3), .val (.int p4), .val (.int (p2 &&& (3 : Int32))), .val (.ref b211), .unset, .unset, .unset, .unset, .unset] [(.int (2 : Int32))]))
        refine own_st (fun _ k => XS.istore X211.here hx rfl (hb hby at_54) rfl (l' := #[.val (.long p1), .second, .val (.int p2), .val (.int p3), .val (.int p4), .val (.int (p2 &&& (3 : Int32))), .val (.ref b211), .val (.int (2 : Int32)), .unset, .unset, .unset, .unset]) rfl k) ?_
        show own_Go p e below s _ _ _ (T211.setTop (mkF m 56 #[.val (.long p1), .second, .val (.int p2), .val (.int p3), .val (.int p4), .val (.int (p2 &&& (3 : Int32))), .val (.ref b211), .val (.int (2 : Int32)), .unset, .unset, .unset, .unset] []))
        refine own_st (fun _ k => XS.iload X211.here hx rfl (hb hby at_56) rfl k) ?_
        show own_Go p e below s _ _ _ (T211.setTop (mkF m 58 #[.val (.long p1), .second, .val (.int p2), .val (.int p3), .val (.int p4), .val (.int (p2 &&& (3 : Int32))), .val (.ref b211), .val (.int (2 : Int32)), .unset, .unset, .unset, .unset] [(.int (2 : Int32))]))
        refine own_st (fun _ k => XS.ifNo X211.here hx rfl (hb hby at_58) rfl (XT.i0_le_f (by decide)) k) ?_
        show own_Go p e below s _ _ _ (T211.setTop (mkF m 61 #[.val (.long p1), .second, .val (.int p2), .val (.int p3), .val (.int p4), .val (.int (p2 &&& (3 : Int32))), .val (.ref b211), .val (.int (2 : Int32)), .unset, .unset, .unset, .unset] []))
        refine own_st (fun _ k => XS.aload X211.here hx rfl (hb hby at_61) rfl rfl k) ?_
        show own_Go p e below s _ _ _ (T211.setTop (mkF m 63 #[.val (.long p1), .second, .val (.int p2), .val (.int p3), .val (.int p4), .val (.int (p2 &&& (3 : Int32))), .val (.ref b211), .val (.int (2 : Int32)), .unset, .unset, .unset, .unset] [(.ref b211)]))
        refine own_st (fun _ k => XT.iconstV X211.here hx rfl (0 : Int32) (hb hby at_63) (by decide) k) ?_
        show own_Go p e below s _ _ _ (T211.setTop (mkF m 64 #[.val (.long p1), .second, .val (.int p2), .val (.int p3), .val (.int p4), .val (.int (p2 &&& (3 : Int32))), .val (.ref b211), .val (.int (2 : Int32)), .unset, .unset, .unset, .unset] [(.int (0 : Int32)), (.ref b211)]))
        refine own_st (fun _ k => XS.iload X211.here hx rfl (hb hby at_64) rfl k) ?_
        show own_Go p e below s _ _ _ (T211.setTop (mkF m 66 #[.val (.long p1), .second, .val (.int p2), .val (.int p3), .val (.int p4), .val (.int (p2 &&& (3 : Int32))), .val (.ref b211), .val (.int (2 : Int32)), .unset, .unset, .unset, .unset] [(.int p4), (.int (0 : Int32)), (.ref b211)]))
        refine own_st (fun _ k => XT.bipushV X211.here hx rfl (8 : Int32) (hb hby at_66) (by decide) k) ?_
        show own_Go p e below s _ _ _ (T211.setTop (mkF m 68 #[.val (.long p1), .second, .val (.int p2), .val (.int p3), .val (.int p4), .val (.int (p2 &&& (3 : Int32))), .val (.ref b211), .val (.int (2 : Int32)), .unset, .unset, .unset, .unset] [(.int (8 : Int32)), (.int p4), (.int (0 : Int32)), (.ref b211)]))
        refine own_st (fun _ k => XT.iushr X211.here hx rfl (hb hby at_68) rfl k) ?_
        show own_Go p e below s _ _ _ (T211.setTop (mkF m 69 #[.val (.long p1), .second, .val (.int p2), .val (.int p3), .val (.int p4), .val (.int (p2 &&& (3 : Int32))), .val (.ref b211), .val (.int (2 : Int32)), .unset, .unset, .unset, .unset] [(.int (XT.ushr p4 (8 : Int32))), (.int (0 : Int32)), (.ref b211)]))
        refine own_st (fun _ k => XT.i2b X211.here hx rfl (hb hby at_69) rfl k) ?_
        show own_Go p e below s _ _ _ (T211.setTop (mkF m 70 #[.val (.long p1), .second, .val (.int p2), .val (.int p3), .val (.int p4), .val (.int (p2 &&& (3 : Int32))), .val (.ref b211), .val (.int (2 : Int32)), .unset, .unset, .unset, .unset] [(.int ((XT.ushr p4 (8 : Int32)).toInt8.toInt32)), (.int (0 : Int32)), (.ref b211)]))
        obtain ⟨cl216, Ar216, kc216, S216, Nn216, H216, G216⟩ := id F214
        have hin216 : ¬ ((0 : Int32) < 0 ∨ cl216.slots.size ≤ ((0 : Int32) : Int32).toNatClampNeg) := inb_of S216 (by decide)
        obtain ⟨T216, h216, X216, e216, W216, st216⟩ := stB X211 hx hZ e211 Ar216 (j := (0 : Int32)) hin216 (g := (mkF m 70 #[.val (.long p1), .second, .val (.int p2), .val (.int p3), .val (.int p4), .val (.int (p2 &&& (3 : Int32))), .val (.ref b211), .val (.int (2 : Int32)), .unset, .unset, .unset, .unset] [(.int ((XT.ushr p4 (8 : Int32)).toInt8.toInt32)), (.int (0 : Int32)), (.ref b211)])) rfl rfl (hb hby at_70)
        refine own_st st216 ?_
        have N217 := Fr.snoc X216 N0 g213
        have F218 : Arv Z h216 b211 k211 .byte (2 : Int32) [(.int (nar .byte ((XT.ushr p4 (8 : Int32)).toInt8.toInt32))), (.int (0 : Int32))] (.int (0 : Int32)) := Arv.set Ar216 kc216 S216 Nn216 H216 G216 (fits_nar_byte _) W216 0 (by decide) (Nat.le_of_ble_eq_true rfl)
        have Zs219 : n0 ≤ h216.size := Nat.le_trans Zs212 (Nat.le_of_eq W216.size.symm)
        show own_Go p e below s _ _ _ (T216.setTop (mkF m 71 #[.val (.long p1), .second, .val (.int p2), .val (.int p3), .val (.int p4), .val (.int (p2 &&& (3 : Int32))), .val (.ref b211), .val (.int (2 : Int32)), .unset, .unset, .unset, .unset] []))
        refine own_st (fun _ k => XS.aload X216.here hx rfl (hb hby at_71) rfl rfl k) ?_
        show own_Go p e below s _ _ _ (T216.setTop (mkF m 73 #[.val (.long p1), .second, .val (.int p2), .val (.int p3), .val (.int p4), .val (.int (p2 &&& (3 : Int32))), .val (.ref b211), .val (.int (2 : Int32)), .unset, .unset, .unset, .unset] [(.ref b211)]))
        refine own_st (fun _ k => XS.iload X216.here hx rfl (hb hby at_73) rfl k) ?_
        show own_Go p e below s _ _ _ (T216.setTop (mkF m 75 #[.val (.long p1), .second, .val (.int p2), .val (.int p3), .val (.int p4), .val (.int (p2 &&& (3 : Int32))), .val (.ref b211), .val (.int (2 : Int32)), .unset, .unset, .unset, .unset] [(.int (2 : Int32)), (.ref b211)]))
        refine own_st (fun _ k => XT.iconstV X216.here hx rfl (1 : Int32) (hb hby at_75) (by decide) k) ?_
        show own_Go p e below s _ _ _ (T216.setTop (mkF m 76 #[.val (.long p1), .second, .val (.int p2), .val (.int p3), .val (.int p4), .val (.int (p2 &&& (3 : Int32))), .val (.ref b211), .val (.int (2 : Int32)), .unset, .unset, .unset, .unset] [(.int (1 : Int32)), (.int (2 : Int32)), (.ref b211)]))
        refine own_st (fun _ k => XS.isub X216.here hx rfl (hb hby at_76) rfl k) ?_
        show own_Go p e below s _ _ _ (T216.setTop (mkF m 77 #[.val (.long p1), .second, .val (.int p2), .val (.int p3), .val (.int p4), .val (.int (p2 &&& (3 : Int32))), .val (.ref b211), .val (.int (2 : Int32)), .unset, .unset, .unset, .unset] [(.int (1 : Int32)), (.ref b211)]))
        refine own_st (fun _ k => XS.iload X216.here hx rfl (hb hby at_77) rfl k) ?_
        show own_Go p e below s _ _ _ (T216.setTop (mkF m 79 #[.val (.long p1), .second, .val (.int p2), .val (.int p3), .val (.int p4), .val (.int (p2 &&& (3 : Int32))), .val (.ref b211), .val (.int (2 : Int32)), .unset, .unset, .unset, .unset] [(.int p4), (.int (1 : Int32)), (.ref b211)]))
        refine own_st (fun _ k => XT.i2b X216.here hx rfl (hb hby at_79) rfl k) ?_
        show own_Go p e below s _ _ _ (T216.setTop (mkF m 80 #[.val (.long p1), .second, .val (.int p2), .val (.int p3), .val (.int p4), .val (.int (p2 &&& (3 : Int32))), .val (.ref b211), .val (.int (2 : Int32)), .unset, .unset, .unset, .unset] [(.int (p4.toInt8.toInt32)), (.int (1 : Int32)), (.ref b211)]))
        obtain ⟨cl220, Ar220, kc220, S220, Nn220, H220, G220⟩ := id F218
        have hin220 : ¬ ((1 : Int32) < 0 ∨ cl220.slots.size ≤ ((1 : Int32) : Int32).toNatClampNeg) := inb_of S220 (by decide)
        obtain ⟨T220, h220, X220, e220, W220, st220⟩ := stB X216 hx hZ e216 Ar220 (j := (1 : Int32)) hin220 (g := (mkF m 80 #[.val (.long p1), .second, .val (.int p2), .val (.int p3), .val (.int p4), .val (.int (p2 &&& (3 : Int32))), .val (.ref b211), .val (.int (2 : Int32)), .unset, .unset, .unset, .unset] [(.int (p4.toInt8.toInt32)), (.int (1 : Int32)), (.ref b211)])) rfl rfl (hb hby at_80)
        refine own_st st220 ?_
        have N221 := Fr.snoc X220 N217 g213
        have F222 : Arv Z h220 b211 k211 .byte (2 : Int32) [(.int (nar .byte ((XT.ushr p4 (8 : Int32)).toInt8.toInt32))), (.int (nar .byte (p4.toInt8.toInt32)))] (.int (0 : Int32)) := Arv.set Ar220 kc220 S220 Nn220 H220 G220 (fits_nar_byte _) W220 1 (by decide) (Nat.le_of_ble_eq_true rfl)
        have Zs223 : n0 ≤ h220.size := Nat.le_trans Zs219 (Nat.le_of_eq W220.size.symm)
        show own_Go p e below s _ _ _ (T220.setTop (mkF m 81 #[.val (.long p1), .second, .val (.int p2), .val (.int p3), .val (.int p4), .val (.int (p2 &&& (3 : Int32))), .val (.ref b211), .val (.int (2 : Int32)), .unset, .unset, .unset, .unset] []))
        refine own_st (fun _ k => XS.iloadN X220.here hx rfl (hb hby at_81) rfl k) ?_
        show own_Go p e below s _ _ _ (T220.setTop (mkF m 82 #[.val (.long p1), .second, .val (.int p2), .val (.int p3), .val (.int p4), .val (.int (p2 &&& (3 : Int32))), .val (.ref b211), .val (.int (2 : Int32)), .unset, .unset, .unset, .unset] [(.int p3)]))
        refine own_st (fun _ k => XT.iconstV X220.here hx rfl (1 : Int32) (hb hby at_82) (by decide) k) ?_
        show own_Go p e below s _ _ _ (T220.setTop (mkF m 83 #[.val (.long p1), .second, .val (.int p2), .val (.int p3), .val (.int p4), .val (.int (p2 &&& (3 : Int32))), .val (.ref b211), .val (.int (2 : Int32)), .unset, .unset, .unset, .unset] [(.int (1 : Int32)), (.int p3)]))
        refine own_st (fun _ k => XS.iand X220.here hx rfl (hb hby at_83) rfl k) ?_
        show own_Go p e below s _ _ _ (T220.setTop (mkF m 84 #[.val (.long p1), .second, .val (.int p2), .val (.int p3), .val (.int p4), .val (.int (p2 &&& (3 : Int32))), .val (.ref b211), .val (.int (2 : Int32)), .unset, .unset, .unset, .unset] [(.int (p3 &&& (1 : Int32)))]))
        by_cases hc224 : (p3 &&& (1 : Int32)) = 0
        · refine own_st (fun _ k => XS.ifNo X220.here hx rfl (hb hby at_84) rfl (XT.i0_ne_f hc224) k) ?_
          show own_Go p e below s _ _ _ (T220.setTop (mkF m 87 #[.val (.long p1), .second, .val (.int p2), .val (.int p3), .val (.int p4), .val (.int (p2 &&& (3 : Int32))), .val (.ref b211), .val (.int (2 : Int32)), .unset, .unset, .unset, .unset] []))
          refine own_st (fun _ k => XS.aconstNull X220.here hx rfl (hb hby at_87) k) ?_
          show own_Go p e below s _ _ _ (T220.setTop (mkF m 88 #[.val (.long p1), .second, .val (.int p2), .val (.int p3), .val (.int p4), .val (.int (p2 &&& (3 : Int32))), .val (.ref b211), .val (.int (2 : Int32)), .unset, .unset, .unset, .unset] [.null]))
          refine own_st (fun _ k => XS.goto X220.here hx rfl (pc0 := 88) (pc' := 95) rfl (hb hby at_88) (by decide) (by decide) k) ?_
          show own_Go p e below s _ _ _ (T220.setTop (mkF m 95 #[.val (.long p1), .second, .val (.int p2), .val (.int p3), .val (.int p4), .val (.int (p2 &&& (3 : Int32))), .val (.ref b211), .val (.int (2 : Int32)), .unset, .unset, .unset, .unset] [.null]))
          refine own_st (fun _ k => XS.astore X220.here hx rfl (hb hby at_95) rfl rfl (l' := #[.val (.long p1), .second, .val (.int p2), .val (.int p3), .val (.int p4), .val (.int (p2 &&& (3 : Int32))), .val (.ref b211), .val (.int (2 : Int32)), .val .null, .unset, .unset, .unset]) rfl k) ?_
          show own_Go p e below s _ _ _ (T220.setTop (mkF m 97 #[.val (.long p1), .second, .val (.int p2), .val (.int p3), .val (.int p4), .val (.int (p2 &&& (3 : Int32))), .val (.ref b211), .val (.int (2 : Int32)), .val .null, .unset, .unset, .unset] []))
          obtain ⟨T225, h225, X225, e225, E225, A225, D225, -, st225⟩ := newO X220 hx hZ hown (hw _ (List.mem_of_getElem? (i := 8) rfl)) (hw _ (List.mem_of_getElem? (i := 9) rfl)) (hw _ (List.mem_of_getElem? (i := 10) rfl)) e220 (g := (mkF m 97 #[.val (.long p1), .second, .val (.int p2), .val (.int p3), .val (.int p4), .val (.int (p2 &&& (3 : Int32))), .val (.ref b211), .val (.int (2 : Int32)), .val .null, .unset, .unset, .unset] [])) rfl (hb hby at_97) (by decide) (by decide)
          obtain ⟨b225, g225⟩ : ∃ z, z = h220.size := ⟨_, rfl⟩
          rw [← g225] at A225 D225 st225
          refine own_st st225 ?_
          have Zs226 : n0 ≤ h225.size := Nat.le_trans Zs223 E225.1
          have g227 : n0 ≤ b225 := Nat.le_trans Zs223 (Nat.le_of_eq g225.symm)
          have F228 : Fld Z h225 b225 "com/example/wache/wache/ListFile$Mark" "fileKey" "Ljava/lang/Object;" .null := D225 (Or.inr (hw _ (List.mem_of_getElem? (i := 23) rfl))) (ty := (.object "java/lang/Object")) (by decide)
          have F229 : Fld Z h225 b225 "com/example/wache/wache/ListFile$Mark" "offset" "J" (.long (0 : Int64)) := D225 (Or.inr (hw _ (List.mem_of_getElem? (i := 25) rfl))) (ty := .long) (by decide)
          have F230 : Fld Z h225 b225 "com/example/wache/wache/ListFile$Mark" "lastLine" "[B" .null := D225 (Or.inr (hw _ (List.mem_of_getElem? (i := 27) rfl))) (ty := (.array .byte)) (by decide)
          show own_Go p e below s _ _ _ (T225.setTop (mkF m 100 #[.val (.long p1), .second, .val (.int p2), .val (.int p3), .val (.int p4), .val (.int (p2 &&& (3 : Int32))), .val (.ref b211), .val (.int (2 : Int32)), .val .null, .unset, .unset, .unset] [(.ref b225)]))
          refine own_st (fun _ k => XS.dup X225.here hx rfl (hb hby at_100) rfl rfl k) ?_
          show own_Go p e below s _ _ _ (T225.setTop (mkF m 101 #[.val (.long p1), .second, .val (.int p2), .val (.int p3), .val (.int p4), .val (.int (p2 &&& (3 : Int32))), .val (.ref b211), .val (.int (2 : Int32)), .val .null, .unset, .unset, .unset] [(.ref b225), (.ref b225)]))
          refine own_st (fun _ k => XS.aload X225.here hx rfl (hb hby at_101) rfl rfl k) ?_
          show own_Go p e below s _ _ _ (T225.setTop (mkF m 103 #[.val (.long p1), .second, .val (.int p2), .val (.int p3), .val (.int p4), .val (.int (p2 &&& (3 : Int32))), .val (.ref b211), .val (.int (2 : Int32)), .val .null, .unset, .unset, .unset] [.null, (.ref b225), (.ref b225)]))
          refine own_st (fun _ k => XT.lloadN X225.here hx rfl (hb hby at_103) rfl k) ?_
          show own_Go p e below s _ _ _ (T225.setTop (mkF m 104 #[.val (.long p1), .second, .val (.int p2), .val (.int p3), .val (.int p4), .val (.int (p2 &&& (3 : Int32))), .val (.ref b211), .val (.int (2 : Int32)), .val .null, .unset, .unset, .unset] [(.long p1), .null, (.ref b225), (.ref b225)]))
          refine own_st (fun _ k => XS.aload X225.here hx rfl (hb hby at_104) rfl rfl k) ?_
          show own_Go p e below s _ _ _ (T225.setTop (mkF m 106 #[.val (.long p1), .second, .val (.int p2), .val (.int p3), .val (.int p4), .val (.int (p2 &&& (3 : Int32))), .val (.ref b211), .val (.int (2 : Int32)), .val .null, .unset, .unset, .unset] [(.ref b211), (.long p1), .null, (.ref b225), (.ref b225)]))
          obtain ⟨_, _, ⟨T231, L231, k231, n231⟩, -, X231, ⟨Lc231, hQ231, l231, y231, z231⟩, st231⟩ := X225.specialBack hx (y := (⟨"com/example/wache/wache/ListFile$Mark", "<init>", "(Ljava/lang/Object;J[B)V"⟩ : MethodName)) rfl hown (mvT hZ (hw _ (List.mem_of_getElem? (i := 11) rfl))) (mvT hZ (hw _ (List.mem_of_getElem? (i := 12) rfl))) (mvT hZ (hw _ (List.mem_of_getElem? (i := 13) rfl))) (by decide) (backOf (W := 1) (own_rm_initN l Z a0 hw [] b225 p1 b211 h225 n0 Zs226 A225 F228 F229 F230 g227) hZ (hw _ (List.mem_of_getElem? (i := 13) rfl)) (hw _ (List.mem_of_getElem? (i := 10) rfl)) (by decide) (by decide)) (g := (mkF m 106 #[.val (.long p1), .second, .val (.int p2), .val (.int p3), .val (.int p4), .val (.int (p2 &&& (3 : Int32))), .val (.ref b211), .val (.int (2 : Int32)), .val .null, .unset, .unset, .unset] [(.ref b211), (.long p1), .null, (.ref b225), (.ref b225)])) rfl (by rw [hml]; rfl) (Steps.refl _) (a := b225) (argsL := [.null, (.long p1), (.ref b211)]) (rest := [(.ref b225)]) (lenOf own_pd2 rfl) rfl (by show 2 * 0 + _ ≤ _; exact Nat.le_of_eq rfl) (hb hby at_106) (fun _ _ => ⟨rfl, e225, (by decide : 2 + 0 ≤ _), (by decide : 5 + 0 ≤ _)⟩)
          dsimp only [Pt.U, Pt.locs, Pt.cells, Pt.slots] at X231 l231 y231 z231 st231 hQ231
          subst l231 y231 z231
          obtain ⟨N231q, rfl, K231, q232, q233, q234⟩ := hQ231
          have N235 := Fr.app N221 N231q
          refine own_tr st231 ?_
          have Zs236 : n0 ≤ T231.heap.size := Nat.le_trans Zs226 K231.1
          show own_Go p e below s _ _ _ (T231.setTop (mkF m 109 #[.val (.long p1), .second, .val (.int p2), .val (.int p3), .val (.int p4), .val (.int (p2 &&& (3 : Int32))), .val (.ref b211), .val (.int (2 : Int32)), .val .null, .unset, .unset, .unset] [(.ref b225)]))
          refine own_st (fun _ k => XS.astore X231.here hx rfl (hb hby at_109) rfl rfl (l' := #[.val (.long p1), .second, .val (.int p2), .val (.int p3), .val (.int p4), .val (.int (p2 &&& (3 : Int32))), .val (.ref b211), .val (.int (2 : Int32)), .val .null, .val (.ref b225), .unset, .unset]) rfl k) ?_
          show own_Go p e below s _ _ _ (T231.setTop (mkF m 111 #[.val (.long p1), .second, .val (.int p2), .val (.int p3), .val (.int p4), .val (.int (p2 &&& (3 : Int32))), .val (.ref b211), .val (.int (2 : Int32)), .val .null, .val (.ref b225), .unset, .unset] []))
          refine own_st (fun _ k => XS.aload X231.here hx rfl (hb hby at_111) rfl rfl k) ?_
          show own_Go p e below s _ _ _ (T231.setTop (mkF m 113 #[.val (.long p1), .second, .val (.int p2), .val (.int p3), .val (.int p4), .val (.int (p2 &&& (3 : Int32))), .val (.ref b211), .val (.int (2 : Int32)), .val .null, .val (.ref b225), .unset, .unset] [(.ref b225)]))
          have ne238 : b211 ≠ b225 := Nat.ne_of_lt (Nat.lt_of_lt_of_le (Nat.lt_of_lt_of_le A211.lt (Nat.le_trans (Nat.le_of_eq W216.size.symm) (Nat.le_of_eq W220.size.symm))) (Nat.le_of_eq g225.symm))
          have F239 : Arv Z T231.heap b211 k211 .byte (2 : Int32) [(.int (nar .byte ((XT.ushr p4 (8 : Int32)).toInt8.toInt32))), (.int (nar .byte (p4.toInt8.toInt32)))] (.int (0 : Int32)) := ((F222.ext E225).keep K231 (ninS ne238 nin0))
          obtain ⟨cq237, kq237, q237a, q237b, q237c⟩ := isOf hZ rfl q232
          obtain ⟨_, _, ⟨T237, L237, k237, n237⟩, -, X237, ⟨Lc237, hQ237, l237, y237, z237⟩, st237⟩ := X231.virtualBack hx (y := (⟨"com/example/wache/wache/ListFile$Mark", "lastLineStart", "()J"⟩ : MethodName)) (z := (⟨"com/example/wache/wache/ListFile$Mark", "lastLineStart", "()J"⟩ : MethodName)) hown (mvT hZ (hw _ (List.mem_of_getElem? (i := 28) rfl))) (mvT hZ (hw _ (List.mem_of_getElem? (i := 29) rfl))) (notFace_of_selects (args := #[]) (mvT hZ (hw _ (List.mem_of_getElem? (i := 31) rfl)))) (mvT hZ (hw _ (List.mem_of_getElem? (i := 31) rfl))) (mvT hZ (hw _ (List.mem_of_getElem? (i := 30) rfl))) (by decide) (backOf (W := 0) (own_rm_lls l Z a0 hw [] b225 p1 b211 k211 (2 : Int32) [(.int (nar .byte ((XT.ushr p4 (8 : Int32)).toInt8.toInt32))), (.int (nar .byte (p4.toInt8.toInt32)))] T231.heap n0 Zs236 q233 q234 F239) hZ (hw _ (List.mem_of_getElem? (i := 32) rfl)) (hw _ (List.mem_of_getElem? (i := 10) rfl)) (by decide) (by decide)) q237a q237c (g := (mkF m 113 #[.val (.long p1), .second, .val (.int p2), .val (.int p3), .val (.int p4), .val (.int (p2 &&& (3 : Int32))), .val (.ref b211), .val (.int (2 : Int32)), .val .null, .val (.ref b225), .unset, .unset] [(.ref b225)])) rfl (by rw [hml]; rfl) (Steps.refl _) (argsL := []) (rest := []) (lenOf own_pd3 rfl) rfl (by show 2 * 0 + _ ≤ _; exact Nat.le_of_eq rfl) (hb hby at_113) (fun _ _ => ⟨rfl, rfl, (by decide : 2 + 0 ≤ _), (by decide : 5 + 0 ≤ _)⟩)
          dsimp only [Pt.U, Pt.locs, Pt.cells, Pt.slots] at X237 l237 y237 z237 st237 hQ237
          subst l237 y237 z237
          obtain ⟨N237q, rfl, eh237⟩ := hQ237
          have N240 := Fr.app N235 N237q
          refine own_tr st237 ?_
          show own_Go p e below s _ _ _ (T237.setTop (mkF m 116 #[.val (.long p1), .second, .val (.int p2), .val (.int p3), .val (.int p4), .val (.int (p2 &&& (3 : Int32))), .val (.ref b211), .val (.int (2 : Int32)), .val .null, .val (.ref b225), .unset, .unset] [(.long (p1 - ((2 : Int32).toInt64)))]))
          refine own_st (fun _ k => XT.lstore X237.here hx rfl (hb hby at_116) rfl (l' := #[.val (.long p1), .second, .val (.int p2), .val (.int p3), .val (.int p4), .val (.int (p2 &&& (3 : Int32))), .val (.ref b211), .val (.int (2 : Int32)), .val .null, .val (.ref b225), .val (.long (p1 - ((2 : Int32).toInt64))), .second]) rfl k) ?_
          show own_Go p e below s _ _ _ (T237.setTop (mkF m 118 #[.val (.long p1), .second, .val (.int p2), .val (.int p3), .val (.int p4), .val (.int (p2 &&& (3 : Int32))), .val (.ref b211), .val (.int (2 : Int32)), .val .null, .val (.ref b225), .val (.long (p1 - ((2 : Int32).toInt64))), .second] []))
          refine own_st (fun _ k => XT.lload X237.here hx rfl (hb hby at_118) rfl k) ?_
          show own_Go p e below s _ _ _ (T237.setTop (mkF m 120 #[.val (.long p1), .second, .val (.int p2), .val (.int p3), .val (.int p4), .val (.int (p2 &&& (3 : Int32))), .val (.ref b211), .val (.int (2 : Int32)), .val .null, .val (.ref b225), .val (.long (p1 - ((2 : Int32).toInt64))), .second] [(.long (p1 - ((2 : Int32).toInt64)))]))
          refine own_st (fun _ k => XS.iload X237.here hx rfl (hb hby at_120) rfl k) ?_
          show own_Go p e below s _ _ _ (T237.setTop (mkF m 122 #[.val (.long p1), .second, .val (.int p2), .val (.int p3), .val (.int p4), .val (.int (p2 &&& (3 : Int32))), .val (.ref b211), .val (.int (2 : Int32)), .val .null, .val (.ref b225), .val (.long (p1 - ((2 : Int32).toInt64))), .second] [(.int (2 : Int32)), (.long (p1 - ((2 : Int32).toInt64)))]))
          refine own_st (fun _ k => XT.i2l X237.here hx rfl (hb hby at_122) rfl k) ?_
          show own_Go p e below s _ _ _ (T237.setTop (mkF m 123 #[.val (.long p1), .second, .val (.int p2), .val (.int p3), .val (.int p4), .val (.int (p2 &&& (3 : Int32))), .val (.ref b211), .val (.int (2 : Int32)), .val .null, .val (.ref b225), .val (.long (p1 - ((2 : Int32).toInt64))), .second] [(.long ((2 : Int32).toInt64)), (.long (p1 - ((2 : Int32).toInt64)))]))
          refine own_st (fun _ k => XT.ladd X237.here hx rfl (hb hby at_123) rfl k) ?_
          show own_Go p e below s _ _ _ (T237.setTop (mkF m 124 #[.val (.long p1), .second, .val (.int p2), .val (.int p3), .val (.int p4), .val (.int (p2 &&& (3 : Int32))), .val (.ref b211), .val (.int (2 : Int32)), .val .null, .val (.ref b225), .val (.long (p1 - ((2 : Int32).toInt64))), .second] [(.long ((p1 - ((2 : Int32).toInt64)) + ((2 : Int32).toInt64)))]))
          refine own_st (fun _ k => XT.lloadN X237.here hx rfl (hb hby at_124) rfl k) ?_
          show own_Go p e below s _ _ _ (T237.setTop (mkF m 125 #[.val (.long p1), .second, .val (.int p2), .val (.int p3), .val (.int p4), .val (.int (p2 &&& (3 : Int32))), .val (.ref b211), .val (.int (2 : Int32)), .val .null, .val (.ref b225), .val (.long (p1 - ((2 : Int32).toInt64))), .second] [(.long p1), (.long ((p1 - ((2 : Int32).toInt64)) + ((2 : Int32).toInt64)))]))
          refine own_st (fun _ k => XT.lcmp X237.here hx rfl (hb hby at_125) rfl k) ?_
          show own_Go p e below s _ _ _ (T237.setTop (mkF m 126 #[.val (.long p1), .second, .val (.int p2), .val (.int p3), .val (.int p4), .val (.int (p2 &&& (3 : Int32))), .val (.ref b211), .val (.int (2 : Int32)), .val .null, .val (.ref b225), .val (.long (p1 - ((2 : Int32).toInt64))), .second] [(.int (XT.cmpL ((p1 - ((2 : Int32).toInt64)) + ((2 : Int32).toInt64)) p1))]))
          refine own_st (fun _ k => XS.ifNo X237.here hx rfl (hb hby at_126) rfl (XT.ll_ne_f (by simp)) k) ?_
          show own_Go p e below s _ _ _ (T237.setTop (mkF m 129 #[.val (.long p1), .second, .val (.int p2), .val (.int p3), .val (.int p4), .val (.int (p2 &&& (3 : Int32))), .val (.ref b211), .val (.int (2 : Int32)), .val .null, .val (.ref b225), .val (.long (p1 - ((2 : Int32).toInt64))), .second] []))
          refine own_st (fun _ k => XS.aload X237.here hx rfl (hb hby at_129) rfl rfl k) ?_
          show own_Go p e below s _ _ _ (T237.setTop (mkF m 131 #[.val (.long p1), .second, .val (.int p2), .val (.int p3), .val (.int p4), .val (.int (p2 &&& (3 : Int32))), .val (.ref b211), .val (.int (2 : Int32)), .val .null, .val (.ref b225), .val (.long (p1 - ((2 : Int32).toInt64))), .second] [(.ref b225)]))
          obtain ⟨cq241, kq241, q241a, q241b, q241c⟩ := isOf hZ eh237 q232
          obtain ⟨_, _, ⟨T241, L241, k241, n241⟩, -, X241, ⟨Lc241, hQ241, l241, y241, z241⟩, st241⟩ := X237.virtualBack hx (y := (⟨"com/example/wache/wache/ListFile$Mark", "offset", "()J"⟩ : MethodName)) (z := (⟨"com/example/wache/wache/ListFile$Mark", "offset", "()J"⟩ : MethodName)) hown (mvT hZ (hw _ (List.mem_of_getElem? (i := 33) rfl))) (mvT hZ (hw _ (List.mem_of_getElem? (i := 34) rfl))) (notFace_of_selects (args := #[]) (mvT hZ (hw _ (List.mem_of_getElem? (i := 36) rfl)))) (mvT hZ (hw _ (List.mem_of_getElem? (i := 36) rfl))) (mvT hZ (hw _ (List.mem_of_getElem? (i := 35) rfl))) (by decide) (backOf (W := 0) (own_rm_offset l Z a0 hw [] b225 p1 T231.heap n0 Zs236 q233) hZ (hw _ (List.mem_of_getElem? (i := 37) rfl)) (hw _ (List.mem_of_getElem? (i := 10) rfl)) (by decide) (by decide)) q241a q241c (g := (mkF m 131 #[.val (.long p1), .second, .val (.int p2), .val (.int p3), .val (.int p4), .val (.int (p2 &&& (3 : Int32))), .val (.ref b211), .val (.int (2 : Int32)), .val .null, .val (.ref b225), .val (.long (p1 - ((2 : Int32).toInt64))), .second] [(.ref b225)])) rfl (by rw [hml]; rfl) (Steps.refl _) (argsL := []) (rest := []) (lenOf own_pd3 rfl) rfl (by show 2 * 0 + _ ≤ _; exact Nat.le_of_eq rfl) (hb hby at_131) (fun _ _ => ⟨rfl, eh237, (by decide : 2 + 0 ≤ _), (by decide : 5 + 0 ≤ _)⟩)
          dsimp only [Pt.U, Pt.locs, Pt.cells, Pt.slots] at X241 l241 y241 z241 st241 hQ241
          subst l241 y241 z241
          obtain ⟨N241q, rfl, eh241⟩ := hQ241
          have N242 := Fr.app N240 N241q
          refine own_tr st241 ?_
          show own_Go p e below s _ _ _ (T241.setTop (mkF m 134 #[.val (.long p1), .second, .val (.int p2), .val (.int p3), .val (.int p4), .val (.int (p2 &&& (3 : Int32))), .val (.ref b211), .val (.int (2 : Int32)), .val .null, .val (.ref b225), .val (.long (p1 - ((2 : Int32).toInt64))), .second] [(.long p1)]))
          refine own_st (fun _ k => XT.lloadN X241.here hx rfl (hb hby at_134) rfl k) ?_
          show own_Go p e below s _ _ _ (T241.setTop (mkF m 135 #[.val (.long p1), .second, .val (.int p2), .val (.int p3), .val (.int p4), .val (.int (p2 &&& (3 : Int32))), .val (.ref b211), .val (.int (2 : Int32)), .val .null, .val (.ref b225), .val (.long (p1 - ((2 : Int32).toInt64))), .second] [(.long p1), (.long p1)]))
          refine own_st (fun _ k => XT.lcmp X241.here hx rfl (hb hby at_135) rfl k) ?_
          show own_Go p e below s _ _ _ (T241.setTop (mkF m 136 #[.val (.long p1), .second, .val (.int p2), .val (.int p3), .val (.int p4), .val (.int (p2 &&& (3 : Int32))), .val (.ref b211), .val (.int (2 : Int32)), .val .null, .val (.ref b225), .val (.long (p1 - ((2 : Int32).toInt64))), .second] [(.int (XT.cmpL p1 p1))]))
          refine own_st (fun _ k => XS.ifNo X241.here hx rfl (hb hby at_136) rfl (XT.ll_ne_f rfl) k) ?_
          show own_Go p e below s _ _ _ (T241.setTop (mkF m 139 #[.val (.long p1), .second, .val (.int p2), .val (.int p3), .val (.int p4), .val (.int (p2 &&& (3 : Int32))), .val (.ref b211), .val (.int (2 : Int32)), .val .null, .val (.ref b225), .val (.long (p1 - ((2 : Int32).toInt64))), .second] []))
          refine own_st (fun _ k => XS.aload X241.here hx rfl (hb hby at_139) rfl rfl k) ?_
          show own_Go p e below s _ _ _ (T241.setTop (mkF m 141 #[.val (.long p1), .second, .val (.int p2), .val (.int p3), .val (.int p4), .val (.int (p2 &&& (3 : Int32))), .val (.ref b211), .val (.int (2 : Int32)), .val .null, .val (.ref b225), .val (.long (p1 - ((2 : Int32).toInt64))), .second] [(.ref b225)]))
          obtain ⟨cq243, kq243, q243a, q243b, q243c⟩ := isOf hZ eh241 q232
          obtain ⟨_, _, ⟨T243, L243, k243, n243⟩, -, X243, ⟨Lc243, hQ243, l243, y243, z243⟩, st243⟩ := X241.virtualBack hx (y := (⟨"com/example/wache/wache/ListFile$Mark", "lastLine", "()[B"⟩ : MethodName)) (z := (⟨"com/example/wache/wache/ListFile$Mark", "lastLine", "()[B"⟩ : MethodName)) hown (mvT hZ (hw _ (List.mem_of_getElem? (i := 38) rfl))) (mvT hZ (hw _ (List.mem_of_getElem? (i := 39) rfl))) (notFace_of_selects (args := #[]) (mvT hZ (hw _ (List.mem_of_getElem? (i := 41) rfl)))) (mvT hZ (hw _ (List.mem_of_getElem? (i := 41) rfl))) (mvT hZ (hw _ (List.mem_of_getElem? (i := 40) rfl))) (by decide) (backOf (W := 0) (own_rm_lastLine l Z a0 hw [] b225 b211 T231.heap n0 Zs236 q234) hZ (hw _ (List.mem_of_getElem? (i := 42) rfl)) (hw _ (List.mem_of_getElem? (i := 10) rfl)) (by decide) (by decide)) q243a q243c (g := (mkF m 141 #[.val (.long p1), .second, .val (.int p2), .val (.int p3), .val (.int p4), .val (.int (p2 &&& (3 : Int32))), .val (.ref b211), .val (.int (2 : Int32)), .val .null, .val (.ref b225), .val (.long (p1 - ((2 : Int32).toInt64))), .second] [(.ref b225)])) rfl (by rw [hml]; rfl) (Steps.refl _) (argsL := []) (rest := []) (lenOf own_pd4 rfl) rfl (by show 2 * 0 + _ ≤ _; exact Nat.le_of_eq rfl) (hb hby at_141) (fun _ _ => ⟨rfl, eh241, (by decide : 2 + 0 ≤ _), (by decide : 5 + 0 ≤ _)⟩)
          dsimp only [Pt.U, Pt.locs, Pt.cells, Pt.slots] at X243 l243 y243 z243 st243 hQ243
          subst l243 y243 z243
          obtain ⟨N243q, rfl, eh243⟩ := hQ243
          have N244 := Fr.app N242 N243q
          refine own_tr st243 ?_
          show own_Go p e below s _ _ _ (T243.setTop (mkF m 144 #[.val (.long p1), .second, .val (.int p2), .val (.int p3), .val (.int p4), .val (.int (p2 &&& (3 : Int32))), .val (.ref b211), .val (.int (2 : Int32)), .val .null, .val (.ref b225), .val (.long (p1 - ((2 : Int32).toInt64))), .second] [(.ref b211)]))
          refine own_st (fun _ k => XS.aload X243.here hx rfl (hb hby at_144) rfl rfl k) ?_
          show own_Go p e below s _ _ _ (T243.setTop (mkF m 146 #[.val (.long p1), .second, .val (.int p2), .val (.int p3), .val (.int p4), .val (.int (p2 &&& (3 : Int32))), .val (.ref b211), .val (.int (2 : Int32)), .val .null, .val (.ref b225), .val (.long (p1 - ((2 : Int32).toInt64))), .second] [(.ref b211), (.ref b211)]))
          refine own_st (fun _ k => XT.acmpNo X243.here hx rfl (hb hby at_146) rfl rfl rfl (XT.aa_ne_f (congrArg Value.ref rfl)) k) ?_
          show own_Go p e below s _ _ _ (T243.setTop (mkF m 149 #[.val (.long p1), .second, .val (.int p2), .val (.int p3), .val (.int p4), .val (.int (p2 &&& (3 : Int32))), .val (.ref b211), .val (.int (2 : Int32)), .val .null, .val (.ref b225), .val (.long (p1 - ((2 : Int32).toInt64))), .second] []))
          refine own_st (fun _ k => XT.iconstV X243.here hx rfl (1 : Int32) (hb hby at_149) (by decide) k) ?_
          show own_Go p e below s _ _ _ (T243.setTop (mkF m 150 #[.val (.long p1), .second, .val (.int p2), .val (.int p3), .val (.int p4), .val (.int (p2 &&& (3 : Int32))), .val (.ref b211), .val (.int (2 : Int32)), .val .null, .val (.ref b225), .val (.long (p1 - ((2 : Int32).toInt64))), .second] [(.int (1 : Int32))]))
          refine own_st (fun _ k => XS.goto X243.here hx rfl (pc0 := 150) (pc' := 154) rfl (hb hby at_150) (by decide) (by decide) k) ?_
          show own_Go p e below s _ _ _ (T243.setTop (mkF m 154 #[.val (.long p1), .second, .val (.int p2), .val (.int p3), .val (.int p4), .val (.int (p2 &&& (3 : Int32))), .val (.ref b211), .val (.int (2 : Int32)), .val .null, .val (.ref b225), .val (.long (p1 - ((2 : Int32).toInt64))), .second] [(.int (1 : Int32))]))
          refine own_retN X243 hx hlk Bd.returns (t := .boolean) (z' := (1 : Int32)) (by simp) (by decide) (hb hby at_154) (by decide) (by decide) ?_
          rw [eh243]
          exact ⟨N244, rfl⟩
        · refine own_st (fun _ k => XS.ifYes X220.here hx rfl (pc0 := 84) (pc' := 91) rfl (hb hby at_84) rfl (XT.i0_ne_t hc224) (by decide) (by decide) k) ?_
          show own_Go p e below s _ _ _ (T220.setTop (mkF m 91 #[.val (.long p1), .second, .val (.int p2), .val (.int p3), .val (.int p4), .val (.int (p2 &&& (3 : Int32))), .val (.ref b211), .val (.int (2 : Int32)), .unset, .unset, .unset, .unset] []))
          refine own_st (fun _ k => XS.iloadN X220.here hx rfl (hb hby at_91) rfl k) ?_
          show own_Go p e below s _ _ _ (T220.setTop (mkF m 92 #[.val (.long p1), .second, .val (.int p2), .val (.int p3), .val (.int p4), .val (.int (p2 &&& (3 : Int32))), .val (.ref b211), .val (.int (2 : Int32)), .unset, .unset, .unset, .unset] [(.int p3)]))
          have O246 : Old Z n0 h220 := (((O0.ext E211).wr W216 g213).wr W220 g213)
          obtain ⟨_, _, ⟨T245, L245, k245, n245⟩, -, X245, ⟨Lc245, hQ245, l245, y245, z245⟩, st245⟩ := Jvm.LawKit.callS X220 hx (y := (⟨"java/lang/Integer", "valueOf", "(I)Ljava/lang/Integer;"⟩ : MethodName)) hown (mvT hZ (hw _ (List.mem_of_getElem? (i := 1) rfl))) (mvT hZ (hw _ (List.mem_of_getElem? (i := 2) rfl))) (mvT hZ (hw _ (List.mem_of_getElem? (i := 3) rfl))) (mvT hZ (hw _ (List.mem_of_getElem? (i := 4) rfl))) (by decide) (backOf (W := 0) (own_rm_valueOfI l Z a0 hw [] p3 a_cacheI h220 n0 Zs223 O246 S_cacheI BxI S_high) hZ (hw _ (List.mem_of_getElem? (i := 4) rfl)) (hw _ (List.mem_of_getElem? (i := 3) rfl)) (by decide) (by decide)) (g := (mkF m 92 #[.val (.long p1), .second, .val (.int p2), .val (.int p3), .val (.int p4), .val (.int (p2 &&& (3 : Int32))), .val (.ref b211), .val (.int (2 : Int32)), .unset, .unset, .unset, .unset] [(.int p3)])) rfl (by rw [hml]; rfl) (argsL := [(.int p3)]) (rest := []) (lenOf own_pd5 rfl) rfl (by show 2 * 0 + _ ≤ _; exact Nat.le_of_eq rfl) (hb hby at_92) (fun _ _ => ⟨rfl, e220, (by decide : 1 + 1 ≤ _), (by decide : 2 + 1 ≤ _)⟩)
          dsimp only [Pt.U, Pt.locs, Pt.cells, Pt.slots] at X245 l245 y245 z245 st245 hQ245
          subst l245 y245 z245
          obtain ⟨x247, N245q, rfl, K245, q248, q249⟩ := hQ245
          have N250 := Fr.app N221 N245q
          refine own_st st245 ?_
          have Zs251 : n0 ≤ T245.heap.size := Nat.le_trans Zs223 K245.1
          show own_Go p e below s _ _ _ (T245.setTop (mkF m 95 #[.val (.long p1), .second, .val (.int p2), .val (.int p3), .val (.int p4), .val (.int (p2 &&& (3 : Int32))), .val (.ref b211), .val (.int (2 : Int32)), .unset, .unset, .unset, .unset] [(.ref x247)]))
          refine own_st (fun _ k => XS.astore X245.here hx rfl (hb hby at_95) rfl rfl (l' := #[.val (.long p1), .second, .val (.int p2), .val (.int p3), .val (.int p4), .val (.int (p2 &&& (3 : Int32))), .val (.ref b211), .val (.int (2 : Int32)), .val (.ref x247), .unset, .unset, .unset]) rfl k) ?_
          show own_Go p e below s _ _ _ (T245.setTop (mkF m 97 #[.val (.long p1), .second, .val (.int p2), .val (.int p3), .val (.int p4), .val (.int (p2 &&& (3 : Int32))), .val (.ref b211), .val (.int (2 : Int32)), .val (.ref x247), .unset, .unset, .unset] []))
          obtain ⟨T252, h252, X252, e252, E252, A252, D252, -, st252⟩ := newO X245 hx hZ hown (hw _ (List.mem_of_getElem? (i := 8) rfl)) (hw _ (List.mem_of_getElem? (i := 9) rfl)) (hw _ (List.mem_of_getElem? (i := 10) rfl)) rfl (g := (mkF m 97 #[.val (.long p1), .second, .val (.int p2), .val (.int p3), .val (.int p4), .val (.int (p2 &&& (3 : Int32))), .val (.ref b211), .val (.int (2 : Int32)), .val (.ref x247), .unset, .unset, .unset] [])) rfl (hb hby at_97) (by decide) (by decide)
          obtain ⟨b252, g252⟩ : ∃ z, z = T245.heap.size := ⟨_, rfl⟩
          rw [← g252] at A252 D252 st252
          refine own_st st252 ?_
          have Zs253 : n0 ≤ h252.size := Nat.le_trans Zs251 E252.1
          have g254 : n0 ≤ b252 := Nat.le_trans Zs251 (Nat.le_of_eq g252.symm)
          have F255 : Fld Z h252 b252 "com/example/wache/wache/ListFile$Mark" "fileKey" "Ljava/lang/Object;" .null := D252 (Or.inr (hw _ (List.mem_of_getElem? (i := 23) rfl))) (ty := (.object "java/lang/Object")) (by decide)
          have F256 : Fld Z h252 b252 "com/example/wache/wache/ListFile$Mark" "offset" "J" (.long (0 : Int64)) := D252 (Or.inr (hw _ (List.mem_of_getElem? (i := 25) rfl))) (ty := .long) (by decide)
          have F257 : Fld Z h252 b252 "com/example/wache/wache/ListFile$Mark" "lastLine" "[B" .null := D252 (Or.inr (hw _ (List.mem_of_getElem? (i := 27) rfl))) (ty := (.array .byte)) (by decide)
          show own_Go p e below s _ _ _ (T252.setTop (mkF m 100 #[.val (.long p1), .second, .val (.int p2), .val (.int p3), .val (.int p4), .val (.int (p2 &&& (3 : Int32))), .val (.ref b211), .val (.int (2 : Int32)), .val (.ref x247), .unset, .unset, .unset] [(.ref b252)]))
          refine own_st (fun _ k => XS.dup X252.here hx rfl (hb hby at_100) rfl rfl k) ?_
          show own_Go p e below s _ _ _ (T252.setTop (mkF m 101 #[.val (.long p1), .second, .val (.int p2), .val (.int p3), .val (.int p4), .val (.int (p2 &&& (3 : Int32))), .val (.ref b211), .val (.int (2 : Int32)), .val (.ref x247), .unset, .unset, .unset] [(.ref b252), (.ref b252)]))
          refine own_st (fun _ k => XS.aload X252.here hx rfl (hb hby at_101) rfl rfl k) ?_
          show own_Go p e below s _ _ _ (T252.setTop (mkF m 103 #[.val (.long p1), .second, .val (.int p2), .val (.int p3), .val (.int p4), .val (.int (p2 &&& (3 : Int32))), .val (.ref b211), .val (.int (2 : Int32)), .val (.ref x247), .unset, .unset, .unset] [(.ref x247), (.ref b252), (.ref b252)]))
          refine own_st (fun _ k => XT.lloadN X252.here hx rfl (hb hby at_103) rfl k) ?_
          show own_Go p e below s _ _ _ (T252.setTop (mkF m 104 #[.val (.long p1), .second, .val (.int p2), .val (.int p3), .val (.int p4), .val (.int (p2 &&& (3 : Int32))), .val (.ref b211), .val (.int (2 : Int32)), .val (.ref x247), .unset, .unset, .unset] [(.long p1), (.ref x247), (.ref b252), (.ref b252)]))
          refine own_st (fun _ k => XS.aload X252.here hx rfl (hb hby at_104) rfl rfl k) ?_
          show own_Go p e below s _ _ _ (T252.setTop (mkF m 106 #[.val (.long p1), .second, .val (.int p2), .val (.int p3), .val (.int p4), .val (.int (p2 &&& (3 : Int32))), .val (.ref b211), .val (.int (2 : Int32)), .val (.ref x247), .unset, .unset, .unset] [(.ref b211), (.long p1), (.ref x247), (.ref b252), (.ref b252)]))
          obtain ⟨_, _, ⟨T258, L258, k258, n258⟩, -, X258, ⟨Lc258, hQ258, l258, y258, z258⟩, st258⟩ := X252.specialBack hx (y := (⟨"com/example/wache/wache/ListFile$Mark", "<init>", "(Ljava/lang/Object;J[B)V"⟩ : MethodName)) rfl hown (mvT hZ (hw _ (List.mem_of_getElem? (i := 11) rfl))) (mvT hZ (hw _ (List.mem_of_getElem? (i := 12) rfl))) (mvT hZ (hw _ (List.mem_of_getElem? (i := 13) rfl))) (by decide) (backOf (W := 1) (own_rm_initR l Z a0 hw [] b252 x247 p1 b211 h252 n0 Zs253 A252 F255 F256 F257 g254) hZ (hw _ (List.mem_of_getElem? (i := 13) rfl)) (hw _ (List.mem_of_getElem? (i := 10) rfl)) (by decide) (by decide)) (g := (mkF m 106 #[.val (.long p1), .second, .val (.int p2), .val (.int p3), .val (.int p4), .val (.int (p2 &&& (3 : Int32))), .val (.ref b211), .val (.int (2 : Int32)), .val (.ref x247), .unset, .unset, .unset] [(.ref b211), (.long p1), (.ref x247), (.ref b252), (.ref b252)])) rfl (by rw [hml]; rfl) (Steps.refl _) (a := b252) (argsL := [(.ref x247), (.long p1), (.ref b211)]) (rest := [(.ref b252)]) (lenOf own_pd2 rfl) rfl (by show 2 * 0 + _ ≤ _; exact Nat.le_of_eq rfl) (hb hby at_106) (fun _ _ => ⟨rfl, e252, (by decide : 3 + 0 ≤ _), (by decide : 6 + 0 ≤ _)⟩)
          dsimp only [Pt.U, Pt.locs, Pt.cells, Pt.slots] at X258 l258 y258 z258 st258 hQ258
          subst l258 y258 z258
          obtain ⟨N258q, rfl, K258, q259, q260, q261⟩ := hQ258
          have N262 := Fr.app N250 N258q
          refine own_tr st258 ?_
          have Zs263 : n0 ≤ T258.heap.size := Nat.le_trans Zs253 K258.1
          show own_Go p e below s _ _ _ (T258.setTop (mkF m 109 #[.val (.long p1), .second, .val (.int p2), .val (.int p3), .val (.int p4), .val (.int (p2 &&& (3 : Int32))), .val (.ref b211), .val (.int (2 : Int32)), .val (.ref x247), .unset, .unset, .unset] [(.ref b252)]))
          refine own_st (fun _ k => XS.astore X258.here hx rfl (hb hby at_109) rfl rfl (l' := #[.val (.long p1), .second, .val (.int p2), .val (.int p3), .val (.int p4), .val (.int (p2 &&& (3 : Int32))), .val (.ref b211), .val (.int (2 : Int32)), .val (.ref x247), .val (.ref b252), .unset, .unset]) rfl k) ?_
          show own_Go p e below s _ _ _ (T258.setTop (mkF m 111 #[.val (.long p1), .second, .val (.int p2), .val (.int p3), .val (.int p4), .val (.int (p2 &&& (3 : Int32))), .val (.ref b211), .val (.int (2 : Int32)), .val (.ref x247), .val (.ref b252), .unset, .unset] []))
          refine own_st (fun _ k => XS.aload X258.here hx rfl (hb hby at_111) rfl rfl k) ?_
          show own_Go p e below s _ _ _ (T258.setTop (mkF m 113 #[.val (.long p1), .second, .val (.int p2), .val (.int p3), .val (.int p4), .val (.int (p2 &&& (3 : Int32))), .val (.ref b211), .val (.int (2 : Int32)), .val (.ref x247), .val (.ref b252), .unset, .unset] [(.ref b252)]))
          have ne265 : b211 ≠ b252 := Nat.ne_of_lt (Nat.lt_of_lt_of_le (Nat.lt_of_lt_of_le A211.lt (Nat.le_trans (Nat.le_trans (Nat.le_of_eq W216.size.symm) (Nat.le_of_eq W220.size.symm)) K245.1)) (Nat.le_of_eq g252.symm))
          have F266 : Arv Z T258.heap b211 k211 .byte (2 : Int32) [(.int (nar .byte ((XT.ushr p4 (8 : Int32)).toInt8.toInt32))), (.int (nar .byte (p4.toInt8.toInt32)))] (.int (0 : Int32)) := (((F222.keep K245 nin0).ext E252).keep K258 (ninS ne265 nin0))
          obtain ⟨cq264, kq264, q264a, q264b, q264c⟩ := isOf hZ rfl q259
          obtain ⟨_, _, ⟨T264, L264, k264, n264⟩, -, X264, ⟨Lc264, hQ264, l264, y264, z264⟩, st264⟩ := X258.virtualBack hx (y := (⟨"com/example/wache/wache/ListFile$Mark", "lastLineStart", "()J"⟩ : MethodName)) (z := (⟨"com/example/wache/wache/ListFile$Mark", "lastLineStart", "()J"⟩ : MethodName)) hown (mvT hZ (hw _ (List.mem_of_getElem? (i := 28) rfl))) (mvT hZ (hw _ (List.mem_of_getElem? (i := 29) rfl))) (notFace_of_selects (args := #[]) (mvT hZ (hw _ (List.mem_of_getElem? (i := 31) rfl)))) (mvT hZ (hw _ (List.mem_of_getElem? (i := 31) rfl))) (mvT hZ (hw _ (List.mem_of_getElem? (i := 30) rfl))) (by decide) (backOf (W := 0) (own_rm_lls l Z a0 hw [] b252 p1 b211 k211 (2 : Int32) [(.int (nar .byte ((XT.ushr p4 (8 : Int32)).toInt8.toInt32))), (.int (nar .byte (p4.toInt8.toInt32)))] T258.heap n0 Zs263 q260 q261 F266) hZ (hw _ (List.mem_of_getElem? (i := 32) rfl)) (hw _ (List.mem_of_getElem? (i := 10) rfl)) (by decide) (by decide)) q264a q264c (g := (mkF m 113 #[.val (.long p1), .second, .val (.int p2), .val (.int p3), .val (.int p4), .val (.int (p2 &&& (3 : Int32))), .val (.ref b211), .val (.int (2 : Int32)), .val (.ref x247), .val (.ref b252), .unset, .unset] [(.ref b252)])) rfl (by rw [hml]; rfl) (Steps.refl _) (argsL := []) (rest := []) (lenOf own_pd3 rfl) rfl (by show 2 * 0 + _ ≤ _; exact Nat.le_of_eq rfl) (hb hby at_113) (fun _ _ => ⟨rfl, rfl, (by decide : 3 + 0 ≤ _), (by decide : 6 + 0 ≤ _)⟩)
          dsimp only [Pt.U, Pt.locs, Pt.cells, Pt.slots] at X264 l264 y264 z264 st264 hQ264
          subst l264 y264 z264
          obtain ⟨N264q, rfl, eh264⟩ := hQ264
          have N267 := Fr.app N262 N264q
          refine own_tr st264 ?_
          show own_Go p e below s _ _ _ (T264.setTop (mkF m 116 #[.val (.long p1), .second, .val (.int p2), .val (.int p3), .val (.int p4), .val (.int (p2 &&& (3 : Int32))), .val (.ref b211), .val (.int (2 : Int32)), .val (.ref x247), .val (.ref b252), .unset, .unset] [(.long (p1 - ((2 : Int32).toInt64)))]))
          refine own_st (fun _ k => XT.lstore X264.here hx rfl (hb hby at_116) rfl (l' := #[.val (.long p1), .second, .val (.int p2), .val (.int p3), .val (.int p4), .val (.int (p2 &&& (3 : Int32))), .val (.ref b211), .val (.int (2 : Int32)), .val (.ref x247), .val (.ref b252), .val (.long (p1 - ((2 : Int32).toInt64))), .second]) rfl k) ?_
          show own_Go p e below s _ _ _ (T264.setTop (mkF m 118 #[.val (.long p1), .second, .val (.int p2), .val (.int p3), .val (.int p4), .val (.int (p2 &&& (3 : Int32))), .val (.ref b211), .val (.int (2 : Int32)), .val (.ref x247), .val (.ref b252), .val (.long (p1 - ((2 : Int32).toInt64))), .second] []))
          refine own_st (fun _ k => XT.lload X264.here hx rfl (hb hby at_118) rfl k) ?_
          show own_Go p e below s _ _ _ (T264.setTop (mkF m 120 #[.val (.long p1), .second, .val (.int p2), .val (.int p3), .val (.int p4), .val (.int (p2 &&& (3 : Int32))), .val (.ref b211), .val (.int (2 : Int32)), .val (.ref x247), .val (.ref b252), .val (.long (p1 - ((2 : Int32).toInt64))), .second] [(.long (p1 - ((2 : Int32).toInt64)))]))
          refine own_st (fun _ k => XS.iload X264.here hx rfl (hb hby at_120) rfl k) ?_
          show own_Go p e below s _ _ _ (T264.setTop (mkF m 122 #[.val (.long p1), .second, .val (.int p2), .val (.int p3), .val (.int p4), .val (.int (p2 &&& (3 : Int32))), .val (.ref b211), .val (.int (2 : Int32)), .val (.ref x247), .val (.ref b252), .val (.long (p1 - ((2 : Int32).toInt64))), .second] [(.int (2 : Int32)), (.long (p1 - ((2 : Int32).toInt64)))]))
          refine own_st (fun _ k => XT.i2l X264.here hx rfl (hb hby at_122) rfl k) ?_
          show own_Go p e below s _ _ _ (T264.setTop (mkF m 123 #[.val (.long p1), .second, .val (.int p2), .val (.int p3), .val (.int p4), .val (.int (p2 &&& (3 : Int32))), .val (.ref b211), .val (.int (2 : Int32)), .val (.ref x247), .val (.ref b252), .val (.long (p1 - ((2 : Int32).toInt64))), .second] [(.long ((2 : Int32).toInt64)), (.long (p1 - ((2 : Int32).toInt64)))]))
          refine own_st (fun _ k => XT.ladd X264.here hx rfl (hb hby at_123) rfl k) ?_
          show own_Go p e below s _ _ _ (T264.setTop (mkF m 124 #[.val (.long p1), .second, .val (.int p2), .val (.int p3), .val (.int p4), .val (.int (p2 &&& (3 : Int32))), .val (.ref b211), .val (.int (2 : Int32)), .val (.ref x247), .val (.ref b252), .val (.long (p1 - ((2 : Int32).toInt64))), .second] [(.long ((p1 - ((2 : Int32).toInt64)) + ((2 : Int32).toInt64)))]))
          refine own_st (fun _ k => XT.lloadN X264.here hx rfl (hb hby at_124) rfl k) ?_
          show own_Go p e below s _ _ _ (T264.setTop (mkF m 125 #[.val (.long p1), .second, .val (.int p2), .val (.int p3), .val (.int p4), .val (.int (p2 &&& (3 : Int32))), .val (.ref b211), .val (.int (2 : Int32)), .val (.ref x247), .val (.ref b252), .val (.long (p1 - ((2 : Int32).toInt64))), .second] [(.long p1), (.long ((p1 - ((2 : Int32).toInt64)) + ((2 : Int32).toInt64)))]))
          refine own_st (fun _ k => XT.lcmp X264.here hx rfl (hb hby at_125) rfl k) ?_
          show own_Go p e below s _ _ _ (T264.setTop (mkF m 126 #[.val (.long p1), .second, .val (.int p2), .val (.int p3), .val (.int p4), .val (.int (p2 &&& (3 : Int32))), .val (.ref b211), .val (.int (2 : Int32)), .val (.ref x247), .val (.ref b252), .val (.long (p1 - ((2 : Int32).toInt64))), .second] [(.int (XT.cmpL ((p1 - ((2 : Int32).toInt64)) + ((2 : Int32).toInt64)) p1))]))
          refine own_st (fun _ k => XS.ifNo X264.here hx rfl (hb hby at_126) rfl (XT.ll_ne_f (by simp)) k) ?_
          show own_Go p e below s _ _ _ (T264.setTop (mkF m 129 #[.val (.long p1), .second, .val (.int p2), .val (.int p3), .val (.int p4), .val (.int (p2 &&& (3 : Int32))), .val (.ref b211), .val (.int (2 : Int32)), .val (.ref x247), .val (.ref b252), .val (.long (p1 - ((2 : Int32).toInt64))), .second] []))
          refine own_st (fun _ k => XS.aload X264.here hx rfl (hb hby at_129) rfl rfl k) ?_
          show own_Go p e below s _ _ _ (T264.setTop (mkF m 131 #[.val (.long p1), .second, .val (.int p2), .val (.int p3), .val (.int p4), .val (.int (p2 &&& (3 : Int32))), .val (.ref b211), .val (.int (2 : Int32)), .val (.ref x247), .val (.ref b252), .val (.long (p1 - ((2 : Int32).toInt64))), .second] [(.ref b252)]))
          obtain ⟨cq268, kq268, q268a, q268b, q268c⟩ := isOf hZ eh264 q259
          obtain ⟨_, _, ⟨T268, L268, k268, n268⟩, -, X268, ⟨Lc268, hQ268, l268, y268, z268⟩, st268⟩ := X264.virtualBack hx (y := (⟨"com/example/wache/wache/ListFile$Mark", "offset", "()J"⟩ : MethodName)) (z := (⟨"com/example/wache/wache/ListFile$Mark", "offset", "()J"⟩ : MethodName)) hown (mvT hZ (hw _ (List.mem_of_getElem? (i := 33) rfl))) (mvT hZ (hw _ (List.mem_of_getElem? (i := 34) rfl))) (notFace_of_selects (args := #[]) (mvT hZ (hw _ (List.mem_of_getElem? (i := 36) rfl)))) (mvT hZ (hw _ (List.mem_of_getElem? (i := 36) rfl))) (mvT hZ (hw _ (List.mem_of_getElem? (i := 35) rfl))) (by decide) (backOf (W := 0) (own_rm_offset l Z a0 hw [] b252 p1 T258.heap n0 Zs263 q260) hZ (hw _ (List.mem_of_getElem? (i := 37) rfl)) (hw _ (List.mem_of_getElem? (i := 10) rfl)) (by decide) (by decide)) q268a q268c (g := (mkF m 131 #[.val (.long p1), .second, .val (.int p2), .val (.int p3), .val (.int p4), .val (.int (p2 &&& (3 : Int32))), .val (.ref b211), .val (.int (2 : Int32)), .val (.ref x247), .val (.ref b252), .val (.long (p1 - ((2 : Int32).toInt64))), .second] [(.ref b252)])) rfl (by rw [hml]; rfl) (Steps.refl _) (argsL := []) (rest := []) (lenOf own_pd3 rfl) rfl (by show 2 * 0 + _ ≤ _; exact Nat.le_of_eq rfl) (hb hby at_131) (fun _ _ => ⟨rfl, eh264, (by decide : 3 + 0 ≤ _), (by decide : 6 + 0 ≤ _)⟩)
          dsimp only [Pt.U, Pt.locs, Pt.cells, Pt.slots] at X268 l268 y268 z268 st268 hQ268
          subst l268 y268 z268
          obtain ⟨N268q, rfl, eh268⟩ := hQ268
          have N269 := Fr.app N267 N268q
          refine own_tr st268 ?_
          show own_Go p e below s _ _ _ (T268.setTop (mkF m 134 #[.val (.long p1), .second, .val (.int p2), .val (.int p3), .val (.int p4), .val (.int (p2 &&& (3 : Int32))), .val (.ref b211), .val (.int (2 : Int32)), .val (.ref x247), .val (.ref b252), .val (.long (p1 - ((2 : Int32).toInt64))), .second] [(.long p1)]))
          refine own_st (fun _ k => XT.lloadN X268.here hx rfl (hb hby at_134) rfl k) ?_
          show own_Go p e below s _ _ _ (T268.setTop (mkF m 135 #[.val (.long p1), .second, .val (.int p2), .val (.int p3), .val (.int p4), .val (.int (p2 &&& (3 : Int32))), .val (.ref b211), .val (.int (2 : Int32)), .val (.ref x247), .val (.ref b252), .val (.long (p1 - ((2 : Int32).toInt64))), .second] [(.long p1), (.long p1)]))
          refine own_st (fun _ k => XT.lcmp X268.here hx rfl (hb hby at_135) rfl k) ?_
          show own_Go p e below s _ _ _ (T268.setTop (mkF m 136 #[.val (.long p1), .second, .val (.int p2), .val (.int p3), .val (.int p4), .val (.int (p2 &&& (3 : Int32))), .val (.ref b211), .val (.int (2 : Int32)), .val (.ref x247), .val (.ref b252), .val (.long (p1 - ((2 : Int32).toInt64))), .second] [(.int (XT.cmpL p1 p1))]))
          refine own_st (fun _ k => XS.ifNo X268.here hx rfl (hb hby at_136) rfl (XT.ll_ne_f rfl) k) ?_
          show own_Go p e below s _ _ _ (T268.setTop (mkF m 139 #[.val (.long p1), .second, .val (.int p2), .val (.int p3), .val (.int p4), .val (.int (p2 &&& (3 : Int32))), .val (.ref b211), .val (.int (2 : Int32)), .val (.ref x247), .val (.ref b252), .val (.long (p1 - ((2 : Int32).toInt64))), .second] []))
          refine own_st (fun _ k => XS.aload X268.here hx rfl (hb hby at_139) rfl rfl k) ?_
          show own_Go p e below s _ _ _ (T268.setTop (mkF m 141 #[.val (.long p1), .second, .val (.int p2), .val (.int p3), .val (.int p4), .val (.int (p2 &&& (3 : Int32))), .val (.ref b211), .val (.int (2 : Int32)), .val (.ref x247), .val (.ref b252), .val (.long (p1 - ((2 : Int32).toInt64))), .second] [(.ref b252)]))
          obtain ⟨cq270, kq270, q270a, q270b, q270c⟩ := isOf hZ eh268 q259
          obtain ⟨_, _, ⟨T270, L270, k270, n270⟩, -, X270, ⟨Lc270, hQ270, l270, y270, z270⟩, st270⟩ := X268.virtualBack hx (y := (⟨"com/example/wache/wache/ListFile$Mark", "lastLine", "()[B"⟩ : MethodName)) (z := (⟨"com/example/wache/wache/ListFile$Mark", "lastLine", "()[B"⟩ : MethodName)) hown (mvT hZ (hw _ (List.mem_of_getElem? (i := 38) rfl))) (mvT hZ (hw _ (List.mem_of_getElem? (i := 39) rfl))) (notFace_of_selects (args := #[]) (mvT hZ (hw _ (List.mem_of_getElem? (i := 41) rfl)))) (mvT hZ (hw _ (List.mem_of_getElem? (i := 41) rfl))) (mvT hZ (hw _ (List.mem_of_getElem? (i := 40) rfl))) (by decide) (backOf (W := 0) (own_rm_lastLine l Z a0 hw [] b252 b211 T258.heap n0 Zs263 q261) hZ (hw _ (List.mem_of_getElem? (i := 42) rfl)) (hw _ (List.mem_of_getElem? (i := 10) rfl)) (by decide) (by decide)) q270a q270c (g := (mkF m 141 #[.val (.long p1), .second, .val (.int p2), .val (.int p3), .val (.int p4), .val (.int (p2 &&& (3 : Int32))), .val (.ref b211), .val (.int (2 : Int32)), .val (.ref x247), .val (.ref b252), .val (.long (p1 - ((2 : Int32).toInt64))), .second] [(.ref b252)])) rfl (by rw [hml]; rfl) (Steps.refl _) (argsL := []) (rest := []) (lenOf own_pd4 rfl) rfl (by show 2 * 0 + _ ≤ _; exact Nat.le_of_eq rfl) (hb hby at_141) (fun _ _ => ⟨rfl, eh268, (by decide : 3 + 0 ≤ _), (by decide : 6 + 0 ≤ _)⟩)
          dsimp only [Pt.U, Pt.locs, Pt.cells, Pt.slots] at X270 l270 y270 z270 st270 hQ270
          subst l270 y270 z270
          obtain ⟨N270q, rfl, eh270⟩ := hQ270
          have N271 := Fr.app N269 N270q
          refine own_tr st270 ?_
          show own_Go p e below s _ _ _ (T270.setTop (mkF m 144 #[.val (.long p1), .second, .val (.int p2), .val (.int p3), .val (.int p4), .val (.int (p2 &&& (3 : Int32))), .val (.ref b211), .val (.int (2 : Int32)), .val (.ref x247), .val (.ref b252), .val (.long (p1 - ((2 : Int32).toInt64))), .second] [(.ref b211)]))
          refine own_st (fun _ k => XS.aload X270.here hx rfl (hb hby at_144) rfl rfl k) ?_
          show own_Go p e below s _ _ _ (T270.setTop (mkF m 146 #[.val (.long p1), .second, .val (.int p2), .val (.int p3), .val (.int p4), .val (.int (p2 &&& (3 : Int32))), .val (.ref b211), .val (.int (2 : Int32)), .val (.ref x247), .val (.ref b252), .val (.long (p1 - ((2 : Int32).toInt64))), .second] [(.ref b211), (.ref b211)]))
          refine own_st (fun _ k => XT.acmpNo X270.here hx rfl (hb hby at_146) rfl rfl rfl (XT.aa_ne_f (congrArg Value.ref rfl)) k) ?_
          show own_Go p e below s _ _ _ (T270.setTop (mkF m 149 #[.val (.long p1), .second, .val (.int p2), .val (.int p3), .val (.int p4), .val (.int (p2 &&& (3 : Int32))), .val (.ref b211), .val (.int (2 : Int32)), .val (.ref x247), .val (.ref b252), .val (.long (p1 - ((2 : Int32).toInt64))), .second] []))
          refine own_st (fun _ k => XT.iconstV X270.here hx rfl (1 : Int32) (hb hby at_149) (by decide) k) ?_
          show own_Go p e below s _ _ _ (T270.setTop (mkF m 150 #[.val (.long p1), .second, .val (.int p2), .val (.int p3), .val (.int p4), .val (.int (p2 &&& (3 : Int32))), .val (.ref b211), .val (.int (2 : Int32)), .val (.ref x247), .val (.ref b252), .val (.long (p1 - ((2 : Int32).toInt64))), .second] [(.int (1 : Int32))]))
          refine own_st (fun _ k => XS.goto X270.here hx rfl (pc0 := 150) (pc' := 154) rfl (hb hby at_150) (by decide) (by decide) k) ?_
          show own_Go p e below s _ _ _ (T270.setTop (mkF m 154 #[.val (.long p1), .second, .val (.int p2), .val (.int p3), .val (.int p4), .val (.int (p2 &&& (3 : Int32))), .val (.ref b211), .val (.int (2 : Int32)), .val (.ref x247), .val (.ref b252), .val (.long (p1 - ((2 : Int32).toInt64))), .second] [(.int (1 : Int32))]))
          refine own_retN X270 hx hlk Bd.returns (t := .boolean) (z' := (1 : Int32)) (by simp) (by decide) (hb hby at_154) (by decide) (by decide) ?_
          rw [eh270]
          exact ⟨N271, rfl⟩
      · refine own_st (fun _ k => XS.icmpYes X0.here hx rfl (pc0 := 35) (pc' := 46) rfl (hb hby at_35) rfl (XT.ii_ne_t hc210) (by decide) (by decide) k) ?_
        show own_Go p e below s _ _ _ (s₁.setTop (mkF m 46 #[.val (.long p1), .second, .val (.int p2), .val (.int p3), .val (.int p4), .val (.int (p2 &&& (3 : Int32))), .unset, .unset, .unset, .unset, .unset, .unset] []))
        refine own_st (fun _ k => XT.iconstV X0.here hx rfl (5 : Int32) (hb hby at_46) (by decide) k) ?_
        show own_Go p e below s _ _ _ (s₁.setTop (mkF m 47 #[.val (.long p1), .second, .val (.int p2), .val (.int p3), .val (.int p4), .val (.int (p2 &&& (3 : Int32))), .unset, .unset, .unset, .unset, .unset, .unset] [(.int (5 : Int32))]))
        obtain ⟨T272, h272, k272, X272, e272, E272, A272, Ea272, st272⟩ := newPE X0 hx hZ (aty := .byte) (hw _ (List.mem_of_getElem? (i := 0) rfl)) e0 (g := (mkF m 47 #[.val (.long p1), .second, .val (.int p2), .val (.int p3), .val (.int p4), .val (.int (p2 &&& (3 : Int32))), .unset, .unset, .unset, .unset, .unset, .unset] [(.int (5 : Int32))])) rfl (hb hby at_47) rfl (by decide) (cap := 5) (by decide) (by decide) (by decide) (by decide) (ad := "[B") (by decide +kernel)
        obtain ⟨b272, g272⟩ : ∃ z, z = h0.size := ⟨_, rfl⟩
        rw [← g272] at A272 Ea272 st272
        refine own_st st272 ?_
        have Zs273 : n0 ≤ h272.size := Nat.le_trans Z0 E272.1
        have g274 : n0 ≤ b272 := Nat.le_trans Z0 (Nat.le_of_eq g272.symm)
        have F275 : Arv Z h272 b272 k272 .byte (5 : Int32) [(.int (0 : Int32)), (.int (0 : Int32)), (.int (0 : Int32)), (.int (0 : Int32)), (.int (0 : Int32))] (.int (0 : Int32)) := (Arv.new A272 (by decide)).pad (fun i => own_pad 5 _ i)
        show own_Go p e below s _ _ _ (T272.setTop (mkF m 49 #[.val (.long p1), .second, .val (.int p2), .val (.int p3), .val (.int p4), .val (.int (p2 &&& (3 : Int32))), .unset, .unset, .unset, .unset, .unset, .unset] [(.ref b272)]))
        refine own_st (fun _ k => XS.astore X272.here hx rfl (hb hby at_49) rfl rfl (l' := #[.val (.long p1), .second, .val (.int p2), .val (.int p3), .val (.int p4), .val (.int (p2 &&& (3 : Int32))), .val (.ref b272), .unset, .unset, .unset, .unset, .unset]) rfl k) ?_
        show own_Go p e below s _ _ _ (T272.setTop (mkF m 51 #[.val (.long p1), .second, .val (.int p2), .val (.int p3), .val (.int p4), .val (.int (p2 &&& (3 : Int32))), .val (.ref b272), .unset, .unset, .unset, .unset, .unset] []))
        refine own_st (fun _ k => XS.aload X272.here hx rfl (hb hby at_51) rfl rfl k) ?_
        show own_Go p e below s _ _ _ (T272.setTop (mkF m 53 #[.val (.long p1), .second, .val (.int p2), .val (.int p3), .val (.int p4), .val (.int (p2 &&& (3 : Int32))), .val (.ref b272), .unset, .unset, .unset, .unset, .unset] [(.ref b272)]))
        obtain ⟨cl276, Ar276, -, S276, N276, -, -⟩ := id F275
        refine own_st (fun _ k => X272.arraylength hx (by rw [e272]; exact Ar276.1) (State.isArrayOf_alike hZ.alike Ar276.2.1) (g := (mkF m 53 #[.val (.long p1), .second, .val (.int p2), .val (.int p3), .val (.int p4), .val (.int (p2 &&& (3 : Int32))), .val (.ref b272), .unset, .unset, .unset, .unset, .unset] [(.ref b272)])) rfl rfl (hb hby at_53) _ k) ?_
        rw [len_of S276 N276]
        show own_Go p e below s _ _ _ (T272.setTop (mkF m 54 #[.val (.long p1), .second, .val (.int p2), .val (.int p3), .val (.int p4), .val (.int (p2 &&& (3 : Int32))), .val (.ref b272), .unset, .unset, .unset, .unset, .unset] [(.int (5 : Int32))]))
        refine own_st (fun _ k => XS.istore X272.here hx rfl (hb hby at_54) rfl (l' := #[.val (.long p1), .second, .val (.int p2), .val (.int p3), .val (.int p4), .val (.int (p2 &&& (3 : Int32))), .val (.ref b272), .val (.int (5 : Int32)), .unset, .unset, .unset, .unset]) rfl k) ?_
        show own_Go p e below s _ _ _ (T272.setTop (mkF m 56 #[.val (.long p1), .second, .val (.int p2), .val (.int p3), .val (.int p4), .val (.int (p2 &&& (3 : Int32))), .val (.ref b272), .val (.int (5 : Int32)), .unset, .unset, .unset, .unset] []))
        refine own_st (fun _ k => XS.iload X272.here hx rfl (hb hby at_56) rfl k) ?_
        show own_Go p e below s _ _ _ (T272.setTop (mkF m 58 #[.val (.long p1), .second, .val (.int p2), .val (.int p3), .val (.int p4), .val (.int (p2 &&& (3 : Int32))), .val (.ref b272), .val (.int (5 : Int32)), .unset, .unset, .unset, .unset] [(.int (5 : Int32))]))
        refine own_st (fun _ k => XS.ifNo X272.here hx rfl (hb hby at_58) rfl (XT.i0_le_f (by decide)) k) ?_
        show own_Go p e below s _ _ _ (T272.setTop (mkF m 61 #[.val (.long p1), .second, .val (.int p2), .val (.int p3), .val (.int p4), .val (.int (p2 &&& (3 : Int32))), .val (.ref b272), .val (.int (5 : Int32)), .unset, .unset, .unset, .unset] []))
        refine own_st (fun _ k => XS.aload X272.here hx rfl (hb hby at_61) rfl rfl k) ?_
        show own_Go p e below s _ _ _ (T272.setTop (mkF m 63 #[.val (.long p1), .second, .val (.int p2), .val (.int p3), .val (.int p4), .val (.int (p2 &&& (3 : Int32))), .val (.ref b272), .val (.int (5 : Int32)), .unset, .unset, .unset, .unset] [(.ref b272)]))
        refine own_st (fun _ k => XT.iconstV X272.here hx rfl (0 : Int32) (hb hby at_63) (by decide) k) ?_
        show own_Go p e below s _ _ _ (T272.setTop (mkF m 64 #[.val (.long p1), .second, .val (.int p2), .val (.int p3), .val (.int p4), .val (.int (p2 &&& (3 : Int32))), .val (.ref b272), .val (.int (5 : Int32)), .unset, .unset, .unset, .unset] [(.int (0 : Int32)), (.ref b272)]))
        refine own_st (fun _ k => XS.iload X272.here hx rfl (hb hby at_64) rfl k) ?_
        show own_Go p e below s _ _ _ (T272.setTop (mkF m 66 #[.val (.long p1), .second, .val (.int p2), .val (.int p3), .val (.int p4), .val (.int (p2 &&& (3 : Int32))), .val (.ref b272), .val (.int (5 : Int32)), .unset, .unset, .unset, .unset] [(.int p4), (.int (0 : Int32)), (.ref b272)]))
        refine own_st (fun _ k => XT.bipushV X272.here hx rfl (8 : Int32) (hb hby at_66) (by decide) k) ?_
        show own_Go p e below s _ _ _ (T272.setTop (mkF m 68 #[.val (.long p1), .second, .val (.int p2), .val (.int p3), .val (.int p4), .val (.int (p2 &&& (3 : Int32))), .val (.ref b272), .val (.int (5 : Int32)), .unset, .unset, .unset, .unset] [(.int (8 : Int32)), (.int p4), (.int (0 : Int32)), (.ref b272)]))
        refine own_st (fun _ k => XT.iushr X272.here hx rfl (hb hby at_68) rfl k) ?_
        show own_Go p e below s _ _ _ (T272.setTop (mkF m 69 #[.val (.long p1), .second, .val (.int p2), .val (.int p3), .val (.int p4), .val (.int (p2 &&& (3 : Int32))), .val (.ref b272), .val (.int (5 : Int32)), .unset, .unset, .unset, .unset] [(.int (XT.ushr p4 (8 : Int32))), (.int (0 : Int32)), (.ref b272)]))
        refine own_st (fun _ k => XT.i2b X272.here hx rfl (hb hby at_69) rfl k) ?_
        show own_Go p e below s _ _ _ (T272.setTop (mkF m 70 #[.val (.long p1), .second, .val (.int p2), .val (.int p3), .val (.int p4), .val (.int (p2 &&& (3 : Int32))), .val (.ref b272), .val (.int (5 : Int32)), .unset, .unset, .unset, .unset] [(.int ((XT.ushr p4 (8 : Int32)).toInt8.toInt32)), (.int (0 : Int32)), (.ref b272)]))
        obtain ⟨cl277, Ar277, kc277, S277, Nn277, H277, G277⟩ := id F275
        have hin277 : ¬ ((0 : Int32) < 0 ∨ cl277.slots.size ≤ ((0 : Int32) : Int32).toNatClampNeg) := inb_of S277 (by decide)
        obtain ⟨T277, h277, X277, e277, W277, st277⟩ := stB X272 hx hZ e272 Ar277 (j := (0 : Int32)) hin277 (g := (mkF m 70 #[.val (.long p1), .second, .val (.int p2), .val (.int p3), .val (.int p4), .val (.int (p2 &&& (3 : Int32))), .val (.ref b272), .val (.int (5 : Int32)), .unset, .unset, .unset, .unset] [(.int ((XT.ushr p4 (8 : Int32)).toInt8.toInt32)), (.int (0 : Int32)), (.ref b272)])) rfl rfl (hb hby at_70)
        refine own_st st277 ?_
        have N278 := Fr.snoc X277 N0 g274
        have F279 : Arv Z h277 b272 k272 .byte (5 : Int32) [(.int (nar .byte ((XT.ushr p4 (8 : Int32)).toInt8.toInt32))), (.int (0 : Int32)), (.int (0 : Int32)), (.int (0 : Int32)), (.int (0 : Int32))] (.int (0 : Int32)) := Arv.set Ar277 kc277 S277 Nn277 H277 G277 (fits_nar_byte _) W277 0 (by decide) (Nat.le_of_ble_eq_true rfl)
        have Zs280 : n0 ≤ h277.size := Nat.le_trans Zs273 (Nat.le_of_eq W277.size.symm)
        show own_Go p e below s _ _ _ (T277.setTop (mkF m 71 #[.val (.long p1), .second, .val (.int p2), .val (.int p3), .val (.int p4), .val (.int (p2 &&& (3 : Int32))), .val (.ref b272), .val (.int (5 : Int32)), .unset, .unset, .unset, .unset] []))
        refine own_st (fun _ k => XS.aload X277.here hx rfl (hb hby at_71) rfl rfl k) ?_
        show own_Go p e below s _ _ _ (T277.setTop (mkF m 73 #[.val (.long p1), .second, .val (.int p2), .val (.int p3), .val (.int p4), .val (.int (p2 &&& (3 : Int32))), .val (.ref b272), .val (.int (5 : Int32)), .unset, .unset, .unset, .unset] [(.ref b272)]))
        refine own_st (fun _ k => XS.iload X277.here hx rfl (hb hby at_73) rfl k) ?_
        show own_Go p e below s _ _ _ (T277.setTop (mkF m 75 #[.val (.long p1), .second, .val (.int p2), .val (.int p3), .val (.int p4), .val (.int (p2 &&& (3 : Int32))), .val (.ref b272), .val (.int (5 : Int32)), .unset, .unset, .unset, .unset] [(.int (5 : Int32)), (.ref b272)]))
        refine own_st (fun _ k => XT.iconstV X277.here hx rfl (1 : Int32) (hb hby at_75) (by decide) k) ?_
        show own_Go p e below s _ _ _ (T277.setTop (mkF m 76 #[.val (.long p1), .second, .val (.int p2), .val (.int p3), .val (.int p4), .val (.int (p2 &&& (3 : Int32))), .val (.ref b272), .val (.int (5 : Int32)), .unset, .unset, .unset, .unset] [(.int (1 : Int32)), (.int (5 : Int32)), (.ref b272)]))
        refine own_st (fun _ k => XS.isub X277.here hx rfl (hb hby at_76) rfl k) ?_
        show own_Go p e below s _ _ _ (T277.setTop (mkF m 77 #[.val (.long p1), .second, .val (.int p2), .val (.int p3), .val (.int p4), .val (.int (p2 &&& (3 : Int32))), .val (.ref b272), .val (.int (5 : Int32)), .unset, .unset, .unset, .unset] [(.int (4 : Int32)), (.ref b272)]))
        refine own_st (fun _ k => XS.iload X277.here hx rfl (hb hby at_77) rfl k) ?_
        show own_Go p e below s _ _ _ (T277.setTop (mkF m 79 #[.val (.long p1), .second, .val (.int p2), .val (.int p3), .val (.int p4), .val (.int (p2 &&& (3 : Int32))), .val (.ref b272), .val (.int (5 : Int32)), .unset, .unset, .unset, .unset] [(.int p4), (.int (4 : Int32)), (.ref b272)]))
        refine own_st (fun _ k => XT.i2b X277.here hx rfl (hb hby at_79) rfl k) ?_
        show own_Go p e below s _ _ _ (T277.setTop (mkF m 80 #[.val (.long p1), .second, .val (.int p2), .val (.int p3), .val (.int p4), .val (.int (p2 &&& (3 : Int32))), .val (.ref b272), .val (.int (5 : Int32)), .unset, .unset, .unset, .unset] [(.int (p4.toInt8.toInt32)), (.int (4 : Int32)), (.ref b272)]))
        obtain ⟨cl281, Ar281, kc281, S281, Nn281, H281, G281⟩ := id F279
        have hin281 : ¬ ((4 : Int32) < 0 ∨ cl281.slots.size ≤ ((4 : Int32) : Int32).toNatClampNeg) := inb_of S281 (by decide)
        obtain ⟨T281, h281, X281, e281, W281, st281⟩ := stB X277 hx hZ e277 Ar281 (j := (4 : Int32)) hin281 (g := (mkF m 80 #[.val (.long p1), .second, .val (.int p2), .val (.int p3), .val (.int p4), .val (.int (p2 &&& (3 : Int32))), .val (.ref b272), .val (.int (5 : Int32)), .unset, .unset, .unset, .unset] [(.int (p4.toInt8.toInt32)), (.int (4 : Int32)), (.ref b272)])) rfl rfl (hb hby at_80)
        refine own_st st281 ?_
        have N282 := Fr.snoc X281 N278 g274
        have F283 : Arv Z h281 b272 k272 .byte (5 : Int32) [(.int (nar .byte ((XT.ushr p4 (8 : Int32)).toInt8.toInt32))), (.int (0 : Int32)), (.int (0 : Int32)), (.int (0 : Int32)), (.int (nar .byte (p4.toInt8.toInt32)))] (.int (0 : Int32)) := Arv.set Ar281 kc281 S281 Nn281 H281 G281 (fits_nar_byte _) W281 4 (by decide) (Nat.le_of_ble_eq_true rfl)
        have Zs284 : n0 ≤ h281.size := Nat.le_trans Zs280 (Nat.le_of_eq W281.size.symm)
        show own_Go p e below s _ _ _ (T281.setTop (mkF m 81 #[.val (.long p1), .second, .val (.int p2), .val (.int p3), .val (.int p4), .val (.int (p2 &&& (3 : Int32))), .val (.ref b272), .val (.int (5 : Int32)), .unset, .unset, .unset, .unset] []))
        refine own_st (fun _ k => XS.iloadN X281.here hx rfl (hb hby at_81) rfl k) ?_
        show own_Go p e below s _ _ _ (T281.setTop (mkF m 82 #[.val (.long p1), .second, .val (.int p2), .val (.int p3), .val (.int p4), .val (.int (p2 &&& (3 : Int32))), .val (.ref b272), .val (.int (5 : Int32)), .unset, .unset, .unset, .unset] [(.int p3)]))
        refine own_st (fun _ k => XT.iconstV X281.here hx rfl (1 : Int32) (hb hby at_82) (by decide) k) ?_
        show own_Go p e below s _ _ _ (T281.setTop (mkF m 83 #[.val (.long p1), .second, .val (.int p2), .val (.int p3), .val (.int p4), .val (.int (p2 &&& (3 : Int32))), .val (.ref b272), .val (.int (5 : Int32)), .unset, .unset, .unset, .unset] [(.int (1 : Int32)), (.int p3)]))
        refine own_st (fun _ k => XS.iand X281.here hx rfl (hb hby at_83) rfl k) ?_
        show own_Go p e below s _ _ _ (T281.setTop (mkF m 84 #[.val (.long p1), .second, .val (.int p2), .val (.int p3), .val (.int p4), .val (.int (p2 &&& (3 : Int32))), .val (.ref b272), .val (.int (5 : Int32)), .unset, .unset, .unset, .unset] [(.int (p3 &&& (1 : Int32)))]))
        by_cases hc285 : (p3 &&& (1 : Int32)) = 0
        · refine own_st (fun _ k => XS.ifNo X281.here hx rfl (hb hby at_84) rfl (XT.i0_ne_f hc285) k) ?_
          show own_Go p e below s _ _ _ (T281.setTop (mkF m 87 #[.val (.long p1), .second, .val (.int p2), .val (.int p3), .val (.int p4), .val (.int (p2 &&& (3 : Int32))), .val (.ref b272), .val (.int (5 : Int32)), .unset, .unset, .unset, .unset] []))
          refine own_st (fun _ k => XS.aconstNull X281.here hx rfl (hb hby at_87) k) ?_
          show own_Go p e below s _ _ _ (T281.setTop (mkF m 88 #[.val (.long p1), .second, .val (.int p2), .val (.int p3), .val (.int p4), .val (.int (p2 &&& (3 : Int32))), .val (.ref b272), .val (.int (5 : Int32)), .unset, .unset, .unset, .unset] [.null]))
          refine own_st (fun _ k => XS.goto X281.here hx rfl (pc0 := 88) (pc' := 95) rfl (hb hby at_88) (by decide) (by decide) k) ?_
          show own_Go p e below s _ _ _ (T281.setTop (mkF m 95 #[.val (.long p1), .second, .val (.int p2), .val (.int p3), .val (.int p4), .val (.int (p2 &&& (3 : Int32))), .val (.ref b272), .val (.int (5 : Int32)), .unset, .unset, .unset, .unset] [.null]))
          refine own_st (fun _ k => XS.astore X281.here hx rfl (hb hby at_95) rfl rfl (l' := #[.val (.long p1), .second, .val (.int p2), .val (.int p3), .val (.int p4), .val (.int (p2 &&& (3 : Int32))), .val (.ref b272), .val (.int (5 : Int32)), .val .null, .unset, .unset, .unset]) rfl k) ?_
          show own_Go p e below s _ _ _ (T281.setTop (mkF m 97 #[.val (.long p1), .second, .val (.int p2), .val (.int p3), .val (.int p4), .val (.int (p2 &&& (3 : Int32))), .val (.ref b272), .val (.int (5 : Int32)), .val .null, .unset, .unset, .unset] []))
          obtain ⟨T286, h286, X286, e286, E286, A286, D286, -, st286⟩ := newO X281 hx hZ hown (hw _ (List.mem_of_getElem? (i := 8) rfl)) (hw _ (List.mem_of_getElem? (i := 9) rfl)) (hw _ (List.mem_of_getElem? (i := 10) rfl)) e281 (g := (mkF m 97 #[.val (.long p1), .second, .val (.int p2), .val (.int p3), .val (.int p4), .val (.int (p2 &&& (3 : Int32))), .val (.ref b272), .val (.int (5 : Int32)), .val .null, .unset, .unset, .unset] [])) rfl (hb hby at_97) (by decide) (by decide)
          obtain ⟨b286, g286⟩ : ∃ z, z = h281.size := ⟨_, rfl⟩
          rw [← g286] at A286 D286 st286
          refine own_st st286 ?_
          have Zs287 : n0 ≤ h286.size := Nat.le_trans Zs284 E286.1
          have g288 : n0 ≤ b286 := Nat.le_trans Zs284 (Nat.le_of_eq g286.symm)
          have F289 : Fld Z h286 b286 "com/example/wache/wache/ListFile$Mark" "fileKey" "Ljava/lang/Object;" .null := D286 (Or.inr (hw _ (List.mem_of_getElem? (i := 23) rfl))) (ty := (.object "java/lang/Object")) (by decide)
          have F290 : Fld Z h286 b286 "com/example/wache/wache/ListFile$Mark" "offset" "J" (.long (0 : Int64)) := D286 (Or.inr (hw _ (List.mem_of_getElem? (i := 25) rfl))) (ty := .long) (by decide)
          have F291 : Fld Z h286 b286 "com/example/wache/wache/ListFile$Mark" "lastLine" "[B" .null := D286 (Or.inr (hw _ (List.mem_of_getElem? (i := 27) rfl))) (ty := (.array .byte)) (by decide)
          show own_Go p e below s _ _ _ (T286.setTop (mkF m 100 #[.val (.long p1), .second, .val (.int p2), .val (.int p3), .val (.int p4), .val (.int (p2 &&& (3 : Int32))), .val (.ref b272), .val (.int (5 : Int32)), .val .null, .unset, .unset, .unset] [(.ref b286)]))
          refine own_st (fun _ k => XS.dup X286.here hx rfl (hb hby at_100) rfl rfl k) ?_
          show own_Go p e below s _ _ _ (T286.setTop (mkF m 101 #[.val (.long p1), .second, .val (.int p2), .val (.int p3), .val (.int p4), .val (.int (p2 &&& (3 : Int32))), .val (.ref b272), .val (.int (5 : Int32)), .val .null, .unset, .unset, .unset] [(.ref b286), (.ref b286)]))
          refine own_st (fun _ k => XS.aload X286.here hx rfl (hb hby at_101) rfl rfl k) ?_
          show own_Go p e below s _ _ _ (T286.setTop (mkF m 103 #[.val (.long p1), .second, .val (.int p2), .val (.int p3), .val (.int p4), .val (.int (p2 &&& (3 : Int32))), .val (.ref b272), .val (.int (5 : Int32)), .val .null, .unset, .unset, .unset] [.null, (.ref b286), (.ref b286)]))
          refine own_st (fun _ k => XT.lloadN X286.here hx rfl (hb hby at_103) rfl k) ?_
          show own_Go p e below s _ _ _ (T286.setTop (mkF m 104 #[.val (.long p1), .second, .val (.int p2), .val (.int p3), .val (.int p4), .val (.int (p2 &&& (3 : Int32))), .val (.ref b272), .val (.int (5 : Int32)), .val .null, .unset, .unset, .unset] [(.long p1), .null, (.ref b286), (.ref b286)]))
          refine own_st (fun _ k => XS.aload X286.here hx rfl (hb hby at_104) rfl rfl k) ?_
          show own_Go p e below s _ _ _ (T286.setTop (mkF m 106 #[.val (.long p1), .second, .val (.int p2), .val (.int p3), .val (.int p4), .val (.int (p2 &&& (3 : Int32))), .val (.ref b272), .val (.int (5 : Int32)), .val .null, .unset, .unset, .unset] [(.ref b272), (.long p1), .null, (.ref b286), (.ref b286)]))
          obtain ⟨_, _, ⟨T292, L292, k292, n292⟩, -, X292, ⟨Lc292, hQ292, l292, y292, z292⟩, st292⟩ := X286.specialBack hx (y := (⟨"com/example/wache/wache/ListFile$Mark", "<init>", "(Ljava/lang/Object;J[B)V"⟩ : MethodName)) rfl hown (mvT hZ (hw _ (List.mem_of_getElem? (i := 11) rfl))) (mvT hZ (hw _ (List.mem_of_getElem? (i := 12) rfl))) (mvT hZ (hw _ (List.mem_of_getElem? (i := 13) rfl))) (by decide) (backOf (W := 1) (own_rm_initN l Z a0 hw [] b286 p1 b272 h286 n0 Zs287 A286 F289 F290 F291 g288) hZ (hw _ (List.mem_of_getElem? (i := 13) rfl)) (hw _ (List.mem_of_getElem? (i := 10) rfl)) (by decide) (by decide)) (g := (mkF m 106 #[.val (.long p1), .second, .val (.int p2), .val (.int p3), .val (.int p4), .val (.int (p2 &&& (3 : Int32))), .val (.ref b272), .val (.int (5 : Int32)), .val .null, .unset, .unset, .unset] [(.ref b272), (.long p1), .null, (.ref b286), (.ref b286)])) rfl (by rw [hml]; rfl) (Steps.refl _) (a := b286) (argsL := [.null, (.long p1), (.ref b272)]) (rest := [(.ref b286)]) (lenOf own_pd2 rfl) rfl (by show 2 * 0 + _ ≤ _; exact Nat.le_of_eq rfl) (hb hby at_106) (fun _ _ => ⟨rfl, e286, (by decide : 2 + 0 ≤ _), (by decide : 8 + 0 ≤ _)⟩)
          dsimp only [Pt.U, Pt.locs, Pt.cells, Pt.slots] at X292 l292 y292 z292 st292 hQ292
          subst l292 y292 z292
          obtain ⟨N292q, rfl, K292, q293, q294, q295⟩ := hQ292
          have N296 := Fr.app N282 N292q
          refine own_tr st292 ?_
          have Zs297 : n0 ≤ T292.heap.size := Nat.le_trans Zs287 K292.1
          show own_Go p e below s _ _ _ (T292.setTop (mkF m 109 #[.val (.long p1), .second, .val (.int p2), .val (.int p3), .val (.int p4), .val (.int (p2 &&& (3 : Int32))), .val (.ref b272), .val (.int (5 : Int32)), .val .null, .unset, .unset, .unset] [(.ref b286)]))
          refine own_st (fun _ k => XS.astore X292.here hx rfl (hb hby at_109) rfl rfl (l' := #[.val (.long p1), .second, .val (.int p2), .val (.int p3), .val (.int p4), .val (.int (p2 &&& (3 : Int32))), .val (.ref b272), .val (.int (5 : Int32)), .val .null, .val (.ref b286), .unset, .unset]) rfl k) ?_
          show own_Go p e below s _ _ _ (T292.setTop (mkF m 111 #[.val (.long p1), .second, .val (.int p2), .val (.int p3), .val (.int p4), .val (.int (p2 &&& (3 : Int32))), .val (.ref b272), .val (.int (5 : Int32)), .val .null, .val (.ref b286), .unset, .unset] []))
          refine own_st (fun _ k => XS.aload X292.here hx rfl (hb hby at_111) rfl rfl k) ?_
          show own_Go p e below s _ _ _ (T292.setTop (mkF m 113 #[.val (.long p1), .second, .val (.int p2), .val (.int p3), .val (.int p4), .val (.int (p2 &&& (3 : Int32))), .val (.ref b272), .val (.int (5 : Int32)), .val .null, .val (.ref b286), .unset, .unset] [(.ref b286)]))
          have ne299 : b272 ≠ b286 := Nat.ne_of_lt (Nat.lt_of_lt_of_le (Nat.lt_of_lt_of_le A272.lt (Nat.le_trans (Nat.le_of_eq W277.size.symm) (Nat.le_of_eq W281.size.symm))) (Nat.le_of_eq g286.symm))
          have F300 : Arv Z T292.heap b272 k272 .byte (5 : Int32) [(.int (nar .byte ((XT.ushr p4 (8 : Int32)).toInt8.toInt32))), (.int (0 : Int32)), (.int (0 : Int32)), (.int (0 : Int32)), (.int (nar .byte (p4.toInt8.toInt32)))] (.int (0 : Int32)) := ((F283.ext E286).keep K292 (ninS ne299 nin0))
          obtain ⟨cq298, kq298, q298a, q298b, q298c⟩ := isOf hZ rfl q293
          obtain ⟨_, _, ⟨T298, L298, k298, n298⟩, -, X298, ⟨Lc298, hQ298, l298, y298, z298⟩, st298⟩ := X292.virtualBack hx (y := (⟨"com/example/wache/wache/ListFile$Mark", "lastLineStart", "()J"⟩ : MethodName)) (z := (⟨"com/example/wache/wache/ListFile$Mark", "lastLineStart", "()J"⟩ : MethodName)) hown (mvT hZ (hw _ (List.mem_of_getElem? (i := 28) rfl))) (mvT hZ (hw _ (List.mem_of_getElem? (i := 29) rfl))) (notFace_of_selects (args := #[]) (mvT hZ (hw _ (List.mem_of_getElem? (i := 31) rfl)))) (mvT hZ (hw _ (List.mem_of_getElem? (i := 31) rfl))) (mvT hZ (hw _ (List.mem_of_getElem? (i := 30) rfl))) (by decide) (backOf (W := 0) (own_rm_lls l Z a0 hw [] b286 p1 b272 k272 (5 : Int32) [(.int (nar .byte ((XT.ushr p4 (8 : Int32)).toInt8.toInt32))), (.int (0 : Int32)), (.int (0 : Int32)), (.int (0 : Int32)), (.int (nar .byte (p4.toInt8.toInt32)))] T292.heap n0 Zs297 q294 q295 F300) hZ (hw _ (List.mem_of_getElem? (i := 32) rfl)) (hw _ (List.mem_of_getElem? (i := 10) rfl)) (by decide) (by decide)) q298a q298c (g := (mkF m 113 #[.val (.long p1), .second, .val (.int p2), .val (.int p3), .val (.int p4), .val (.int (p2 &&& (3 : Int32))), .val (.ref b272), .val (.int (5 : Int32)), .val .null, .val (.ref b286), .unset, .unset] [(.ref b286)])) rfl (by rw [hml]; rfl) (Steps.refl _) (argsL := []) (rest := []) (lenOf own_pd3 rfl) rfl (by show 2 * 0 + _ ≤ _; exact Nat.le_of_eq rfl) (hb hby at_113) (fun _ _ => ⟨rfl, rfl, (by decide : 2 + 0 ≤ _), (by decide : 8 + 0 ≤ _)⟩)
          dsimp only [Pt.U, Pt.locs, Pt.cells, Pt.slots] at X298 l298 y298 z298 st298 hQ298
          subst l298 y298 z298
          obtain ⟨N298q, rfl, eh298⟩ := hQ298
          have N301 := Fr.app N296 N298q
          refine own_tr st298 ?_
          show own_Go p e below s _ _ _ (T298.setTop (mkF m 116 #[.val (.long p1), .second, .val (.int p2), .val (.int p3), .val (.int p4), .val (.int (p2 &&& (3 : Int32))), .val (.ref b272), .val (.int (5 : Int32)), .val .null, .val (.ref b286), .unset, .unset] [(.long (p1 - ((5 : Int32).toInt64)))]))
          refine own_st (fun _ k => XT.lstore X298.here hx rfl (hb hby at_116) rfl (l' := #[.val (.long p1), .second, .val (.int p2), .val (.int p3), .val (.int p4), .val (.int (p2 &&& (3 : Int32))), .val (.ref b272), .val (.int (5 : Int32)), .val .null, .val (.ref b286), .val (.long (p1 - ((5 : Int32).toInt64))), .second]) rfl k) ?_
          show own_Go p e below s _ _ _ (T298.setTop (mkF m 118 #[.val (.long p1), .second, .val (.int p2), .val (.int p3), .val (.int p4), .val (.int (p2 &&& (3 : Int32))), .val (.ref b272), .val (.int (5 : Int32)), .val .null, .val (.ref b286), .val (.long (p1 - ((5 : Int32).toInt64))), .second] []))
          refine own_st (fun _ k => XT.lload X298.here hx rfl (hb hby at_118) rfl k) ?_
          show own_Go p e below s _ _ _ (T298.setTop (mkF m 120 #[.val (.long p1), .second, .val (.int p2), .val (.int p3), .val (.int p4), .val (.int (p2 &&& (3 : Int32))), .val (.ref b272), .val (.int (5 : Int32)), .val .null, .val (.ref b286), .val (.long (p1 - ((5 : Int32).toInt64))), .second] [(.long (p1 - ((5 : Int32).toInt64)))]))
          refine own_st (fun _ k => XS.iload X298.here hx rfl (hb hby at_120) rfl k) ?_
          show own_Go p e below s _ _ _ (T298.setTop (mkF m 122 #[.val (.long p1), .second, .val (.int p2), .val (.int p3), .val (.int p4), .val (.int (p2 &&& (3 : Int32))), .val (.ref b272), .val (.int (5 : Int32)), .val .null, .val (.ref b286), .val (.long (p1 - ((5 : Int32).toInt64))), .second] [(.int (5 : Int32)), (.long (p1 - ((5 : Int32).toInt64)))]))
          refine own_st (fun _ k => XT.i2l X298.here hx rfl (hb hby at_122) rfl k) ?_
          show own_Go p e below s _ _ _ (T298.setTop (mkF m 123 #[.val (.long p1), .second, .val (.int p2), .val (.int p3), .val (.int p4), .val (.int (p2 &&& (3 : Int32))), .val (.ref b272), .val (.int (5 : Int32)), .val .null, .val (.ref b286), .val (.long (p1 - ((5 : Int32).toInt64))), .second] [(.long ((5 : Int32).toInt64)), (.long (p1 - ((5 : Int32).toInt64)))]))
          refine own_st (fun _ k => XT.ladd X298.here hx rfl (hb hby at_123) rfl k) ?_
          show own_Go p e below s _ _ _ (T298.setTop (mkF m 124 #[.val (.long p1), .second, .val (.int p2), .val (.int p3), .val (.int p4), .val (.int (p2 &&& (3 : Int32))), .val (.ref b272), .val (.int (5 : Int32)), .val .null, .val (.ref b286), .val (.long (p1 - ((5 : Int32).toInt64))), .second] [(.long ((p1 - ((5 : Int32).toInt64)) + ((5 : Int32).toInt64)))]))
          refine own_st (fun _ k => XT.lloadN X298.here hx rfl (hb hby at_124) rfl k) ?_
          show own_Go p e below s _ _ _ (T298.setTop (mkF m 125 #[.val (.long p1), .second, .val (.int p2), .val (.int p3), .val (.int p4), .val (.int (p2 &&& (3 : Int32))), .val (.ref b272), .val (.int (5 : Int32)), .val .null, .val (.ref b286), .val (.long (p1 - ((5 : Int32).toInt64))), .second] [(.long p1), (.long ((p1 - ((5 : Int32).toInt64)) + ((5 : Int32).toInt64)))]))
          refine own_st (fun _ k => XT.lcmp X298.here hx rfl (hb hby at_125) rfl k) ?_
          show own_Go p e below s _ _ _ (T298.setTop (mkF m 126 #[.val (.long p1), .second, .val (.int p2), .val (.int p3), .val (.int p4), .val (.int (p2 &&& (3 : Int32))), .val (.ref b272), .val (.int (5 : Int32)), .val .null, .val (.ref b286), .val (.long (p1 - ((5 : Int32).toInt64))), .second] [(.int (XT.cmpL ((p1 - ((5 : Int32).toInt64)) + ((5 : Int32).toInt64)) p1))]))
          refine own_st (fun _ k => XS.ifNo X298.here hx rfl (hb hby at_126) rfl (XT.ll_ne_f (by simp)) k) ?_
          show own_Go p e below s _ _ _ (T298.setTop (mkF m 129 #[.val (.long p1), .second, .val (.int p2), .val (.int p3), .val (.int p4), .val (.int (p2 &&& (3 : Int32))), .val (.ref b272), .val (.int (5 : Int32)), .val .null, .val (.ref b286), .val (.long (p1 - ((5 : Int32).toInt64))), .second] []))
          refine own_st (fun _ k => XS.aload X298.here hx rfl (hb hby at_129) rfl rfl k) ?_
          show own_Go p e below s _ _ _ (T298.setTop (mkF m 131 #[.val (.long p1), .second, .val (.int p2), .val (.int p3), .val (.int p4), .val (.int (p2 &&& (3 : Int32))), .val (.ref b272), .val (.int (5 : Int32)), .val .null, .val (.ref b286), .val (.long (p1 - ((5 : Int32).toInt64))), .second] [(.ref b286)]))
          obtain ⟨cq302, kq302, q302a, q302b, q302c⟩ := isOf hZ eh298 q293
          obtain ⟨_, _, ⟨T302, L302, k302, n302⟩, -, X302, ⟨Lc302, hQ302, l302, y302, z302⟩, st302⟩ := X298.virtualBack hx (y := (⟨"com/example/wache/wache/ListFile$Mark", "offset", "()J"⟩ : MethodName)) (z := (⟨"com/example/wache/wache/ListFile$Mark", "offset", "()J"⟩ : MethodName)) hown (mvT hZ (hw _ (List.mem_of_getElem? (i := 33) rfl))) (mvT hZ (hw _ (List.mem_of_getElem? (i := 34) rfl))) (notFace_of_selects (args := #[]) (mvT hZ (hw _ (List.mem_of_getElem? (i := 36) rfl)))) (mvT hZ (hw _ (List.mem_of_getElem? (i := 36) rfl))) (mvT hZ (hw _ (List.mem_of_getElem? (i := 35) rfl))) (by decide) (backOf (W := 0) (own_rm_offset l Z a0 hw [] b286 p1 T292.heap n0 Zs297 q294) hZ (hw _ (List.mem_of_getElem? (i := 37) rfl)) (hw _ (List.mem_of_getElem? (i := 10) rfl)) (by decide) (by decide)) q302a q302c (g := (mkF m 131 #[.val (.long p1), .second, .val (.int p2), .val (.int p3), .val (.int p4), .val (.int (p2 &&& (3 : Int32))), .val (.ref b272), .val (.int (5 : Int32)), .val .null, .val (.ref b286), .val (.long (p1 - ((5 : Int32).toInt64))), .second] [(.ref b286)])) rfl (by rw [hml]; rfl) (Steps.refl _) (argsL := []) (rest := []) (lenOf own_pd3 rfl) rfl (by show 2 * 0 + _ ≤ _; exact Nat.le_of_eq rfl) (hb hby at_131) (fun _ _ => ⟨rfl, eh298, (by decide : 2 + 0 ≤ _), (by decide : 8 + 0 ≤ _)⟩)
          dsimp only [Pt.U, Pt.locs, Pt.cells, Pt.slots] at X302 l302 y302 z302 st302 hQ302
          subst l302 y302 z302
          obtain ⟨N302q, rfl, eh302⟩ := hQ302
          have N303 := Fr.app N301 N302q
          refine own_tr st302 ?_
          show own_Go p e below s _ _ _ (T302.setTop (mkF m 134 #[.val (.long p1), .second, .val (.int p2), .val (.int p3), .val (.int p4), .val (.int (p2 &&& (3 : Int32))), .val (.ref b272), .val (.int (5 : Int32)), .val .null, .val (.ref b286), .val (.long (p1 - ((5 : Int32).toInt64))), .second] [(.long p1)]))
          refine own_st (fun _ k => XT.lloadN X302.here hx rfl (hb hby at_134) rfl k) ?_
          show own_Go p e below s _ _ _ (T302.setTop (mkF m 135 #[.val (.long p1), .second, .val (.int p2), .val (.int p3), .val (.int p4), .val (.int (p2 &&& (3 : Int32))), .val (.ref b272), .val (.int (5 : Int32)), .val .null, .val (.ref b286), .val (.long (p1 - ((5 : Int32).toInt64))), .second] [(.long p1), (.long p1)]))
          refine own_st (fun _ k => XT.lcmp X302.here hx rfl (hb hby at_135) rfl k) ?_
          show own_Go p e below s _ _ _ (T302.setTop (mkF m 136 #[.val (.long p1), .second, .val (.int p2), .val (.int p3), .val (.int p4), .val (.int (p2 &&& (3 : Int32))), .val (.ref b272), .val (.int (5 : Int32)), .val .null, .val (.ref b286), .val (.long (p1 - ((5 : Int32).toInt64))), .second] [(.int (XT.cmpL p1 p1))]))
          refine own_st (fun _ k => XS.ifNo X302.here hx rfl (hb hby at_136) rfl (XT.ll_ne_f rfl) k) ?_
          show own_Go p e below s _ _ _ (T302.setTop (mkF m 139 #[.val (.long p1), .second, .val (.int p2), .val (.int p3), .val (.int p4), .val (.int (p2 &&& (3 : Int32))), .val (.ref b272), .val (.int (5 : Int32)), .val .null, .val (.ref b286), .val (.long (p1 - ((5 : Int32).toInt64))), .second] []))
          refine own_st (fun _ k => XS.aload X302.here hx rfl (hb hby at_139) rfl rfl k) ?_
          show own_Go p e below s _ _ _ (T302.setTop (mkF m 141 #[.val (.long p1), .second, .val (.int p2), .val (.int p3), .val (.int p4), .val (.int (p2 &&& (3 : Int32))), .val (.ref b272), .val (.int (5 : Int32)), .val .null, .val (.ref b286), .val (.long (p1 - ((5 : Int32).toInt64))), .second] [(.ref b286)]))
          obtain ⟨cq304, kq304, q304a, q304b, q304c⟩ := isOf hZ eh302 q293
          obtain ⟨_, _, ⟨T304, L304, k304, n304⟩, -, X304, ⟨Lc304, hQ304, l304, y304, z304⟩, st304⟩ := X302.virtualBack hx (y := (⟨"com/example/wache/wache/ListFile$Mark", "lastLine", "()[B"⟩ : MethodName)) (z := (⟨"com/example/wache/wache/ListFile$Mark", "lastLine", "()[B"⟩ : MethodName)) hown (mvT hZ (hw _ (List.mem_of_getElem? (i := 38) rfl))) (mvT hZ (hw _ (List.mem_of_getElem? (i := 39) rfl))) (notFace_of_selects (args := #[]) (mvT hZ (hw _ (List.mem_of_getElem? (i := 41) rfl)))) (mvT hZ (hw _ (List.mem_of_getElem? (i := 41) rfl))) (mvT hZ (hw _ (List.mem_of_getElem? (i := 40) rfl))) (by decide) (backOf (W := 0) (own_rm_lastLine l Z a0 hw [] b286 b272 T292.heap n0 Zs297 q295) hZ (hw _ (List.mem_of_getElem? (i := 42) rfl)) (hw _ (List.mem_of_getElem? (i := 10) rfl)) (by decide) (by decide)) q304a q304c (g := (mkF m 141 #[.val (.long p1), .second, .val (.int p2), .val (.int p3), .val (.int p4), .val (.int (p2 &&& (3 : Int32))), .val (.ref b272), .val (.int (5 : Int32)), .val .null, .val (.ref b286), .val (.long (p1 - ((5 : Int32).toInt64))), .second] [(.ref b286)])) rfl (by rw [hml]; rfl) (Steps.refl _) (argsL := []) (rest := []) (lenOf own_pd4 rfl) rfl (by show 2 * 0 + _ ≤ _; exact Nat.le_of_eq rfl) (hb hby at_141) (fun _ _ => ⟨rfl, eh302, (by decide : 2 + 0 ≤ _), (by decide : 8 + 0 ≤ _)⟩)
          dsimp only [Pt.U, Pt.locs, Pt.cells, Pt.slots] at X304 l304 y304 z304 st304 hQ304
          subst l304 y304 z304
          obtain ⟨N304q, rfl, eh304⟩ := hQ304
          have N305 := Fr.app N303 N304q
          refine own_tr st304 ?_
          show own_Go p e below s _ _ _ (T304.setTop (mkF m 144 #[.val (.long p1), .second, .val (.int p2), .val (.int p3), .val (.int p4), .val (.int (p2 &&& (3 : Int32))), .val (.ref b272), .val (.int (5 : Int32)), .val .null, .val (.ref b286), .val (.long (p1 - ((5 : Int32).toInt64))), .second] [(.ref b272)]))
          refine own_st (fun _ k => XS.aload X304.here hx rfl (hb hby at_144) rfl rfl k) ?_
          show own_Go p e below s _ _ _ (T304.setTop (mkF m 146 #[.val (.long p1), .second, .val (.int p2), .val (.int p3), .val (.int p4), .val (.int (p2 &&& (3 : Int32))), .val (.ref b272), .val (.int (5 : Int32)), .val .null, .val (.ref b286), .val (.long (p1 - ((5 : Int32).toInt64))), .second] [(.ref b272), (.ref b272)]))
          refine own_st (fun _ k => XT.acmpNo X304.here hx rfl (hb hby at_146) rfl rfl rfl (XT.aa_ne_f (congrArg Value.ref rfl)) k) ?_
          show own_Go p e below s _ _ _ (T304.setTop (mkF m 149 #[.val (.long p1), .second, .val (.int p2), .val (.int p3), .val (.int p4), .val (.int (p2 &&& (3 : Int32))), .val (.ref b272), .val (.int (5 : Int32)), .val .null, .val (.ref b286), .val (.long (p1 - ((5 : Int32).toInt64))), .second] []))
          refine own_st (fun _ k => XT.iconstV X304.here hx rfl (1 : Int32) (hb hby at_149) (by decide) k) ?_
          show own_Go p e below s _ _ _ (T304.setTop (mkF m 150 #[.val (.long p1), .second, .val (.int p2), .val (.int p3), .val (.int p4), .val (.int (p2 &&& (3 : Int32))), .val (.ref b272), .val (.int (5 : Int32)), .val .null, .val (.ref b286), .val (.long (p1 - ((5 : Int32).toInt64))), .second] [(.int (1 : Int32))]))
          refine own_st (fun _ k => XS.goto X304.here hx rfl (pc0 := 150) (pc' := 154) rfl (hb hby at_150) (by decide) (by decide) k) ?_
          show own_Go p e below s _ _ _ (T304.setTop (mkF m 154 #[.val (.long p1), .second, .val (.int p2), .val (.int p3), .val (.int p4), .val (.int (p2 &&& (3 : Int32))), .val (.ref b272), .val (.int (5 : Int32)), .val .null, .val (.ref b286), .val (.long (p1 - ((5 : Int32).toInt64))), .second] [(.int (1 : Int32))]))
          refine own_retN X304 hx hlk Bd.returns (t := .boolean) (z' := (1 : Int32)) (by simp) (by decide) (hb hby at_154) (by decide) (by decide) ?_
          rw [eh304]
          exact ⟨N305, rfl⟩
        · refine own_st (fun _ k => XS.ifYes X281.here hx rfl (pc0 := 84) (pc' := 91) rfl (hb hby at_84) rfl (XT.i0_ne_t hc285) (by decide) (by decide) k) ?_
          show own_Go p e below s _ _ _ (T281.setTop (mkF m 91 #[.val (.long p1), .second, .val (.int p2), .val (.int p3), .val (.int p4), .val (.int (p2 &&& (3 : Int32))), .val (.ref b272), .val (.int (5 : Int32)), .unset, .unset, .unset, .unset] []))
          refine own_st (fun _ k => XS.iloadN X281.here hx rfl (hb hby at_91) rfl k) ?_
          show own_Go p e below s _ _ _ (T281.setTop (mkF m 92 #[.val (.long p1), .second, .val (.int p2), .val (.int p3), .val (.int p4), .val (.int (p2 &&& (3 : Int32))), .val (.ref b272), .val (.int (5 : Int32)), .unset, .unset, .unset, .unset] [(.int p3)]))
          have O307 : Old Z n0 h281 := (((O0.ext E272).wr W277 g274).wr W281 g274)
          obtain ⟨_, _, ⟨T306, L306, k306, n306⟩, -, X306, ⟨Lc306, hQ306, l306, y306, z306⟩, st306⟩ := Jvm.LawKit.callS X281 hx (y := (⟨"java/lang/Integer", "valueOf", "(I)Ljava/lang/Integer;"⟩ : MethodName)) hown (mvT hZ (hw _ (List.mem_of_getElem? (i := 1) rfl))) (mvT hZ (hw _ (List.mem_of_getElem? (i := 2) rfl))) (mvT hZ (hw _ (List.mem_of_getElem? (i := 3) rfl))) (mvT hZ (hw _ (List.mem_of_getElem? (i := 4) rfl))) (by decide) (backOf (W := 0) (own_rm_valueOfI l Z a0 hw [] p3 a_cacheI h281 n0 Zs284 O307 S_cacheI BxI S_high) hZ (hw _ (List.mem_of_getElem? (i := 4) rfl)) (hw _ (List.mem_of_getElem? (i := 3) rfl)) (by decide) (by decide)) (g := (mkF m 92 #[.val (.long p1), .second, .val (.int p2), .val (.int p3), .val (.int p4), .val (.int (p2 &&& (3 : Int32))), .val (.ref b272), .val (.int (5 : Int32)), .unset, .unset, .unset, .unset] [(.int p3)])) rfl (by rw [hml]; rfl) (argsL := [(.int p3)]) (rest := []) (lenOf own_pd5 rfl) rfl (by show 2 * 0 + _ ≤ _; exact Nat.le_of_eq rfl) (hb hby at_92) (fun _ _ => ⟨rfl, e281, (by decide : 1 + 1 ≤ _), (by decide : 5 + 1 ≤ _)⟩)
          dsimp only [Pt.U, Pt.locs, Pt.cells, Pt.slots] at X306 l306 y306 z306 st306 hQ306
          subst l306 y306 z306
          obtain ⟨x308, N306q, rfl, K306, q309, q310⟩ := hQ306
          have N311 := Fr.app N282 N306q
          refine own_st st306 ?_
          have Zs312 : n0 ≤ T306.heap.size := Nat.le_trans Zs284 K306.1
          show own_Go p e below s _ _ _ (T306.setTop (mkF m 95 #[.val (.long p1), .second, .val (.int p2), .val (.int p3), .val (.int p4), .val (.int (p2 &&& (3 : Int32))), .val (.ref b272), .val (.int (5 : Int32)), .unset, .unset, .unset, .unset] [(.ref x308)]))
          refine own_st (fun _ k => XS.astore X306.here hx rfl (hb hby at_95) rfl rfl (l' := #[.val (.long p1), .second, .val (.int p2), .val (.int p3), .val (.int p4), .val (.int (p2 &&& (3 : Int32))), .val (.ref b272), .val (.int (5 : Int32)), .val (.ref x308), .unset, .unset, .unset]) rfl k) ?_
          show own_Go p e below s _ _ _ (T306.setTop (mkF m 97 #[.val (.long p1), .second, .val (.int p2), .val (.int p3), .val (.int p4), .val (.int (p2 &&& (3 : Int32))), .val (.ref b272), .val (.int (5 : Int32)), .val (.ref x308), .unset, .unset, .unset] []))
          obtain ⟨T313, h313, X313, e313, E313, A313, D313, -, st313⟩ := newO X306 hx hZ hown (hw _ (List.mem_of_getElem? (i := 8) rfl)) (hw _ (List.mem_of_getElem? (i := 9) rfl)) (hw _ (List.mem_of_getElem? (i := 10) rfl)) rfl (g := (mkF m 97 #[.val (.long p1), .second, .val (.int p2), .val (.int p3), .val (.int p4), .val (.int (p2 &&& (3 : Int32))), .val (.ref b272), .val (.int (5 : Int32)), .val (.ref x308), .unset, .unset, .unset] [])) rfl (hb hby at_97) (by decide) (by decide)
          obtain ⟨b313, g313⟩ : ∃ z, z = T306.heap.size := ⟨_, rfl⟩
          rw [← g313] at A313 D313 st313
          refine own_st st313 ?_
          have Zs314 : n0 ≤ h313.size := Nat.le_trans Zs312 E313.1
          have g315 : n0 ≤ b313 := Nat.le_trans Zs312 (Nat.le_of_eq g313.symm)
          have F316 : Fld Z h313 b313 "com/example/wache/wache/ListFile$Mark" "fileKey" "Ljava/lang/Object;" .null := D313 (Or.inr (hw _ (List.mem_of_getElem? (i := 23) rfl))) (ty := (.object "java/lang/Object")) (by decide)
          have F317 : Fld Z h313 b313 "com/example/wache/wache/ListFile$Mark" "offset" "J" (.long (0 : Int64)) := D313 (Or.inr (hw _ (List.mem_of_getElem? (i := 25) rfl))) (ty := .long) (by decide)
          have F318 : Fld Z h313 b313 "com/example/wache/wache/ListFile$Mark" "lastLine" "[B" .null := D313 (Or.inr (hw _ (List.mem_of_getElem? (i := 27) rfl))) (ty := (.array .byte)) (by decide)
          show own_Go p e below s _ _ _ (T313.setTop (mkF m 100 #[.val (.long p1), .second, .val (.int p2), .val (.int p3), .val (.int p4), .val (.int (p2 &&& (3 : Int32))), .val (.ref b272), .val (.int (5 : Int32)), .val (.ref x308), .unset, .unset, .unset] [(.ref b313)]))
          refine own_st (fun _ k => XS.dup X313.here hx rfl (hb hby at_100) rfl rfl k) ?_
          show own_Go p e below s _ _ _ (T313.setTop (mkF m 101 #[.val (.long p1), .second, .val (.int p2), .val (.int p3), .val (.int p4), .val (.int (p2 &&& (3 : Int32))), .val (.ref b272), .val (.int (5 : Int32)), .val (.ref x308), .unset, .unset, .unset] [(.ref b313), (.ref b313)]))
          refine own_st (fun _ k => XS.aload X313.here hx rfl (hb hby at_101) rfl rfl k) ?_
          show own_Go p e below s _ _ _ (T313.setTop (mkF m 103 #[.val (.long p1), .second, .val (.int p2), .val (.int p3), .val (.int p4), .val (.int (p2 &&& (3 : Int32))), .val (.ref b272), .val (.int (5 : Int32)), .val (.ref x308), .unset, .unset, .unset] [(.ref x308), (.ref b313), (.ref b313)]))
          refine own_st (fun _ k => XT.lloadN X313.here hx rfl (hb hby at_103) rfl k) ?_
          show own_Go p e below s _ _ _ (T313.setTop (mkF m 104 #[.val (.long p1), .second, .val (.int p2), .val (.int p3), .val (.int p4), .val (.int (p2 &&& (3 : Int32))), .val (.ref b272), .val (.int (5 : Int32)), .val (.ref x308), .unset, .unset, .unset] [(.long p1), (.ref x308), (.ref b313), (.ref b313)]))
          refine own_st (fun _ k => XS.aload X313.here hx rfl (hb hby at_104) rfl rfl k) ?_
          show own_Go p e below s _ _ _ (T313.setTop (mkF m 106 #[.val (.long p1), .second, .val (.int p2), .val (.int p3), .val (.int p4), .val (.int (p2 &&& (3 : Int32))), .val (.ref b272), .val (.int (5 : Int32)), .val (.ref x308), .unset, .unset, .unset] [(.ref b272), (.long p1), (.ref x308), (.ref b313), (.ref b313)]))
          obtain ⟨_, _, ⟨T319, L319, k319, n319⟩, -, X319, ⟨Lc319, hQ319, l319, y319, z319⟩, st319⟩ := X313.specialBack hx (y := (⟨"com/example/wache/wache/ListFile$Mark", "<init>", "(Ljava/lang/Object;J[B)V"⟩ : MethodName)) rfl hown (mvT hZ (hw _ (List.mem_of_getElem? (i := 11) rfl))) (mvT hZ (hw _ (List.mem_of_getElem? (i := 12) rfl))) (mvT hZ (hw _ (List.mem_of_getElem? (i := 13) rfl))) (by decide) (backOf (W := 1) (own_rm_initR l Z a0 hw [] b313 x308 p1 b272 h313 n0 Zs314 A313 F316 F317 F318 g315) hZ (hw _ (List.mem_of_getElem? (i := 13) rfl)) (hw _ (List.mem_of_getElem? (i := 10) rfl)) (by decide) (by decide)) (g := (mkF m 106 #[.val (.long p1), .second, .val (.int p2), .val (.int p3), .val (.int p4), .val (.int (p2 &&& (3 : Int32))), .val (.ref b272), .val (.int (5 : Int32)), .val (.ref x308), .unset, .unset, .unset] [(.ref b272), (.long p1), (.ref x308), (.ref b313), (.ref b313)])) rfl (by rw [hml]; rfl) (Steps.refl _) (a := b313) (argsL := [(.ref x308), (.long p1), (.ref b272)]) (rest := [(.ref b313)]) (lenOf own_pd2 rfl) rfl (by show 2 * 0 + _ ≤ _; exact Nat.le_of_eq rfl) (hb hby at_106) (fun _ _ => ⟨rfl, e313, (by decide : 3 + 0 ≤ _), (by decide : 9 + 0 ≤ _)⟩)
          dsimp only [Pt.U, Pt.locs, Pt.cells, Pt.slots] at X319 l319 y319 z319 st319 hQ319
          subst l319 y319 z319
          obtain ⟨N319q, rfl, K319, q320, q321, q322⟩ := hQ319
          have N323 := Fr.app N311 N319q
          refine own_tr st319 ?_
          have Zs324 : n0 ≤ T319.heap.size := Nat.le_trans Zs314 K319.1
          show own_Go p e below s _ _ _ (T319.setTop (mkF m 109 #[.val (.long p1), .second, .val (.int p2), .val (.int p3), .val (.int p4), .val (.int (p2 &&& (3 : Int32))), .val (.ref b272), .val (.int (5 : Int32)), .val (.ref x308), .unset, .unset, .unset] [(.ref b313)]))
          refine own_st (fun _ k => XS.astore X319.here hx rfl (hb hby at_109) rfl rfl (l' := #[.val (.long p1), .second, .val (.int p2), .val (.int p3), .val (.int p4), .val (.int (p2 &&& (3 : Int32))), .val (.ref b272), .val (.int (5 : Int32)), .val (.ref x308), .val (.ref b313), .unset, .unset]) rfl k) ?_
          show own_Go p e below s _ _ _ (T319.setTop (mkF m 111 #[.val (.long p1), .second, .val (.int p2), .val (.int p3), .val (.int p4), .val (.int (p2 &&& (3 : Int32))), .val (.ref b272), .val (.int (5 : Int32)), .val (.ref x308), .val (.ref b313), .unset, .unset] []))
          refine own_st (fun _ k => XS.aload X319.here hx rfl (hb hby at_111) rfl rfl k) ?_
          show own_Go p e below s _ _ _ (T319.setTop (mkF m 113 #[.val (.long p1), .second, .val (.int p2), .val (.int p3), .val (.int p4), .val (.int (p2 &&& (3 : Int32))), .val (.ref b272), .val (.int (5 : Int32)), .val (.ref x308), .val (.ref b313), .unset, .unset] [(.ref b313)]))
          have ne326 : b272 ≠ b313 := Nat.ne_of_lt (Nat.lt_of_lt_of_le (Nat.lt_of_lt_of_le A272.lt (Nat.le_trans (Nat.le_trans (Nat.le_of_eq W277.size.symm) (Nat.le_of_eq W281.size.symm)) K306.1)) (Nat.le_of_eq g313.symm))
          have F327 : Arv Z T319.heap b272 k272 .byte (5 : Int32) [(.int (nar .byte ((XT.ushr p4 (8 : Int32)).toInt8.toInt32))), (.int (0 : Int32)), (.int (0 : Int32)), (.int (0 : Int32)), (.int (nar .byte (p4.toInt8.toInt32)))] (.int (0 : Int32)) := (((F283.keep K306 nin0).ext E313).keep K319 (ninS ne326 nin0))
          obtain ⟨cq325, kq325, q325a, q325b, q325c⟩ := isOf hZ rfl q320
          obtain ⟨_, _, ⟨T325, L325, k325, n325⟩, -, X325, ⟨Lc325, hQ325, l325, y325, z325⟩, st325⟩ := X319.virtualBack hx (y := (⟨"com/example/wache/wache/ListFile$Mark", "lastLineStart", "()J"⟩ : MethodName)) (z := (⟨"com/example/wache/wache/ListFile$Mark", "lastLineStart", "()J"⟩ : MethodName)) hown (mvT hZ (hw _ (List.mem_of_getElem? (i := 28) rfl))) (mvT hZ (hw _ (List.mem_of_getElem? (i := 29) rfl))) (notFace_of_selects (args := #[]) (mvT hZ (hw _ (List.mem_of_getElem? (i := 31) rfl)))) (mvT hZ (hw _ (List.mem_of_getElem? (i := 31) rfl))) (mvT hZ (hw _ (List.mem_of_getElem? (i := 30) rfl))) (by decide) (backOf (W := 0) (own_rm_lls l Z a0 hw [] b313 p1 b272 k272 (5 : Int32) [(.int (nar .byte ((XT.ushr p4 (8 : Int32)).toInt8.toInt32))), (.int (0 : Int32)), (.int (0 : Int32)), (.int (0 : Int32)), (.int (nar .byte (p4.toInt8.toInt32)))] T319.heap n0 Zs324 q321 q322 F327) hZ (hw _ (List.mem_of_getElem? (i := 32) rfl)) (hw _ (List.mem_of_getElem? (i := 10) rfl)) (by decide) (by decide)) q325a q325c (g := (mkF m 113 #[.val (.long p1), .second, .val (.int p2), .val (.int p3), .val (.int p4), .val (.int (p2 &&& (3 : Int32))), .val (.ref b272), .val (.int (5 : Int32)), .val (.ref x308), .val (.ref b313), .unset, .unset] [(.ref b313)])) rfl (by rw [hml]; rfl) (Steps.refl _) (argsL := []) (rest := []) (lenOf own_pd3 rfl) rfl (by show 2 * 0 + _ ≤ _; exact Nat.le_of_eq rfl) (hb hby at_113) (fun _ _ => ⟨rfl, rfl, (by decide : 3 + 0 ≤ _), (by decide : 9 + 0 ≤ _)⟩)
          dsimp only [Pt.U, Pt.locs, Pt.cells, Pt.slots] at X325 l325 y325 z325 st325 hQ325
          subst l325 y325 z325
          obtain ⟨N325q, rfl, eh325⟩ := hQ325
          have N328 := Fr.app N323 N325q
          refine own_tr st325 ?_
          show own_Go p e below s _ _ _ (T325.setTop (mkF m 116 #[.val (.long p1), .second, .val (.int p2), .val (.int p3), .val (.int p4), .val (.int (p2 &&& (3 : Int32))), .val (.ref b272), .val (.int (5 : Int32)), .val (.ref x308), .val (.ref b313), .unset, .unset] [(.long (p1 - ((5 : Int32).toInt64)))]))
          refine own_st (fun _ k => XT.lstore X325.here hx rfl (hb hby at_116) rfl (l' := #[.val (.long p1), .second, .val (.int p2), .val (.int p3), .val (.int p4), .val (.int (p2 &&& (3 : Int32))), .val (.ref b272), .val (.int (5 : Int32)), .val (.ref x308), .val (.ref b313), .val (.long (p1 - ((5 : Int32).toInt64))), .second]) rfl k) ?_
          show own_Go p e below s _ _ _ (T325.setTop (mkF m 118 #[.val (.long p1), .second, .val (.int p2), .val (.int p3), .val (.int p4), .val (.int (p2 &&& (3 : Int32))), .val (.ref b272), .val (.int (5 : Int32)), .val (.ref x308), .val (.ref b313), .val (.long (p1 - ((5 : Int32).toInt64))), .second] []))
          refine own_st (fun _ k => XT.lload X325.here hx rfl (hb hby at_118) rfl k) ?_
          show own_Go p e below s _ _ _ (T325.setTop (mkF m 120 #[.val (.long p1), .second, .val (.int p2), .val (.int p3), .val (.int p4), .val (.int (p2 &&& (3 : Int32))), .val (.ref b272), .val (.int (5 : Int32)), .val (.ref x308), .val (.ref b313), .val (.long (p1 - ((5 : Int32).toInt64))), .second] [(.long (p1 - ((5 : Int32).toInt64)))]))
          refine own_st (fun _ k => XS.iload X325.here hx rfl (hb hby at_120) rfl k) ?_
          show own_Go p e below s _ _ _ (T325.setTop (mkF m 122 #[.val (.long p1), .second, .val (.int p2), .val (.int p3), .val (.int p4), .val (.int (p2 &&& (3 : Int32))), .val (.ref b272), .val (.int (5 : Int32)), .val (.ref x308), .val (.ref b313), .val (.long (p1 - ((5 : Int32).toInt64))), .second] [(.int (5 : Int32)), (.long (p1 - ((5 : Int32).toInt64)))]))
          refine own_st (fun _ k => XT.i2l X325.here hx rfl (hb hby at_122) rfl k) ?_
          show own_Go p e below s _ _ _ (T325.setTop (mkF m 123 #[.val (.long p1), .second, .val (.int p2), .val (.int p3), .val (.int p4), .val (.int (p2 &&& (3 : Int32))), .val (.ref b272), .val (.int (5 : Int32)), .val (.ref x308), .val (.ref b313), .val (.long (p1 - ((5 : Int32).toInt64))), .second] [(.long ((5 : Int32).toInt64)), (.long (p1 - ((5 : Int32).toInt64)))]))
          refine own_st (fun _ k => XT.ladd X325.here hx rfl (hb hby at_123) rfl k) ?_
          show own_Go p e below s _ _ _ (T325.setTop (mkF m 124 #[.val (.long p1), .second, .val (.int p2), .val (.int p3), .val (.int p4), .val (.int (p2 &&& (3 : Int32))), .val (.ref b272), .val (.int (5 : Int32)), .val (.ref x308), .val (.ref b313), .val (.long (p1 - ((5 : Int32).toInt64))), .second] [(.long ((p1 - ((5 : Int32).toInt64)) + ((5 : Int32).toInt64)))]))
          refine own_st (fun _ k => XT.lloadN X325.here hx rfl (hb hby at_124) rfl k) ?_
          show own_Go p e below s _ _ _ (T325.setTop (mkF m 125 #[.val (.long p1), .second, .val (.int p2), .val (.int p3), .val (.int p4), .val (.int (p2 &&& (3 : Int32))), .val (.ref b272), .val (.int (5 : Int32)), .val (.ref x308), .val (.ref b313), .val (.long (p1 - ((5 : Int32).toInt64))), .second] [(.long p1), (.long ((p1 - ((5 : Int32).toInt64)) + ((5 : Int32).toInt64)))]))
          refine own_st (fun _ k => XT.lcmp X325.here hx rfl (hb hby at_125) rfl k) ?_
          show own_Go p e below s _ _ _ (T325.setTop (mkF m 126 #[.val (.long p1), .second, .val (.int p2), .val (.int p3), .val (.int p4), .val (.int (p2 &&& (3 : Int32))), .val (.ref b272), .val (.int (5 : Int32)), .val (.ref x308), .val (.ref b313), .val (.long (p1 - ((5 : Int32).toInt64))), .second] [(.int (XT.cmpL ((p1 - ((5 : Int32).toInt64)) + ((5 : Int32).toInt64)) p1))]))
          refine own_st (fun _ k => XS.ifNo X325.here hx rfl (hb hby at_126) rfl (XT.ll_ne_f (by simp)) k) ?_
          show own_Go p e below s _ _ _ (T325.setTop (mkF m 129 #[.val (.long p1), .second, .val (.int p2), .val (.int p3), .val (.int p4), .val (.int (p2 &&& (3 : Int32))), .val (.ref b272), .val (.int (5 : Int32)), .val (.ref x308), .val (.ref b313), .val (.long (p1 - ((5 : Int32).toInt64))), .second] []))
          refine own_st (fun _ k => XS.aload X325.here hx rfl (hb hby at_129) rfl rfl k) ?_
          show own_Go p e below s _ _ _ (T325.setTop (mkF m 131 #[.val (.long p1), .second, .val (.int p2), .val (.int p3), .val (.int p4), .val (.int (p2 &&& (3 : Int32))), .val (.ref b272), .val (.int (5 : Int32)), .val (.ref x308), .val (.ref b313), .val (.long (p1 - ((5 : Int32).toInt64))), .second] [(.ref b313)]))
          obtain ⟨cq329, kq329, q329a, q329b, q329c⟩ := isOf hZ eh325 q320
          obtain ⟨_, _, ⟨T329, L329, k329, n329⟩, -, X329, ⟨Lc329, hQ329, l329, y329, z329⟩, st329⟩ := X325.virtualBack hx (y := (⟨"com/example/wache/wache/ListFile$Mark", "offset", "()J"⟩ : MethodName)) (z := (⟨"com/example/wache/wache/ListFile$Mark", "offset", "()J"⟩ : MethodName)) hown (mvT hZ (hw _ (List.mem_of_getElem? (i := 33) rfl))) (mvT hZ (hw _ (List.mem_of_getElem? (i := 34) rfl))) (notFace_of_selects (args := #[]) (mvT hZ (hw _ (List.mem_of_getElem? (i := 36) rfl)))) (mvT hZ (hw _ (List.mem_of_getElem? (i := 36) rfl))) (mvT hZ (hw _ (List.mem_of_getElem? (i := 35) rfl))) (by decide) (backOf (W := 0) (own_rm_offset l Z a0 hw [] b313 p1 T319.heap n0 Zs324 q321) hZ (hw _ (List.mem_of_getElem? (i := 37) rfl)) (hw _ (List.mem_of_getElem? (i := 10) rfl)) (by decide) (by decide)) q329a q329c (g := (mkF m 131 #[.val (.long p1), .second, .val (.int p2), .val (.int p3), .val (.int p4), .val (.int (p2 &&& (3 : Int32))), .val (.ref b272), .val (.int (5 : Int32)), .val (.ref x308), .val (.ref b313), .val (.long (p1 - ((5 : Int32).toInt64))), .second] [(.ref b313)])) rfl (by rw [hml]; rfl) (Steps.refl _) (argsL := []) (rest := []) (lenOf own_pd3 rfl) rfl (by show 2 * 0 + _ ≤ _; exact Nat.le_of_eq rfl) (hb hby at_131) (fun _ _ => ⟨rfl, eh325, (by decide : 3 + 0 ≤ _), (by decide : 9 + 0 ≤ _)⟩)
          dsimp only [Pt.U, Pt.locs, Pt.cells, Pt.slots] at X329 l329 y329 z329 st329 hQ329
          subst l329 y329 z329
          obtain ⟨N329q, rfl, eh329⟩ := hQ329
          have N330 := Fr.app N328 N329q
          refine own_tr st329 ?_
          show own_Go p e below s _ _ _ (T329.setTop (mkF m 134 #[.val (.long p1), .second, .val (.int p2), .val (.int p3), .val (.int p4), .val (.int (p2 &&& (3 : Int32))), .val (.ref b272), .val (.int (5 : Int32)), .val (.ref x308), .val (.ref b313), .val (.long (p1 - ((5 : Int32).toInt64))), .second] [(.long p1)]))
          refine own_st (fun _ k => XT.lloadN X329.here hx rfl (hb hby at_134) rfl k) ?_
          show own_Go p e below s _ _ _ (T329.setTop (mkF m 135 #[.val (.long p1), .second, .val (.int p2), .val (.int p3), .val (.int p4), .val (.int (p2 &&& (3 : Int32))), .val (.ref b272), .val (.int (5 : Int32)), .val (.ref x308), .val (.ref b313), .val (.long (p1 - ((5 : Int32).toInt64))), .second] [(.long p1), (.long p1)]))
          refine own_st (fun _ k => XT.lcmp X329.here hx rfl (hb hby at_135) rfl k) ?_
          show own_Go p e below s _ _ _ (T329.setTop (mkF m 136 #[.val (.long p1), .second, .val (.int p2), .val (.int p3), .val (.int p4), .val (.int (p2 &&& (3 : Int32))), .val (.ref b272), .val (.int (5 : Int32)), .val (.ref x308), .val (.ref b313), .val (.long (p1 - ((5 : Int32).toInt64))), .second] [(.int (XT.cmpL p1 p1))]))
          refine own_st (fun _ k => XS.ifNo X329.here hx rfl (hb hby at_136) rfl (XT.ll_ne_f rfl) k) ?_
          show own_Go p e below s _ _ _ (T329.setTop (mkF m 139 #[.val (.long p1), .second, .val (.int p2), .val (.int p3), .val (.int p4), .val (.int (p2 &&& (3 : Int32))), .val (.ref b272), .val (.int (5 : Int32)), .val (.ref x308), .val (.ref b313), .val (.long (p1 - ((5 : Int32).toInt64))), .second] []))
          refine own_st (fun _ k => XS.aload X329.here hx rfl (hb hby at_139) rfl rfl k) ?_
          show own_Go p e below s _ _ _ (T329.setTop (mkF m 141 #[.val (.long p1), .second, .val (.int p2), .val (.int p3), .val (.int p4), .val (.int (p2 &&& (3 : Int32))), .val (.ref b272), .val (.int (5 : Int32)), .val (.ref x308), .val (.ref b313), .val (.long (p1 - ((5 : Int32).toInt64))), .second] [(.ref b313)]))
          obtain ⟨cq331, kq331, q331a, q331b, q331c⟩ := isOf hZ eh329 q320
          obtain ⟨_, _, ⟨T331, L331, k331, n331⟩, -, X331, ⟨Lc331, hQ331, l331, y331, z331⟩, st331⟩ := X329.virtualBack hx (y := (⟨"com/example/wache/wache/ListFile$Mark", "lastLine", "()[B"⟩ : MethodName)) (z := (⟨"com/example/wache/wache/ListFile$Mark", "lastLine", "()[B"⟩ : MethodName)) hown (mvT hZ (hw _ (List.mem_of_getElem? (i := 38) rfl))) (mvT hZ (hw _ (List.mem_of_getElem? (i := 39) rfl))) (notFace_of_selects (args := #[]) (mvT hZ (hw _ (List.mem_of_getElem? (i := 41) rfl)))) (mvT hZ (hw _ (List.mem_of_getElem? (i := 41) rfl))) (mvT hZ (hw _ (List.mem_of_getElem? (i := 40) rfl))) (by decide) (backOf (W := 0) (own_rm_lastLine l Z a0 hw [] b313 b272 T319.heap n0 Zs324 q322) hZ (hw _ (List.mem_of_getElem? (i := 42) rfl)) (hw _ (List.mem_of_getElem? (i := 10) rfl)) (by decide) (by decide)) q331a q331c (g := (mkF m 141 #[.val (.long p1), .second, .val (.int p2), .val (.int p3), .val (.int p4), .val (.int (p2 &&& (3 : Int32))), .val (.ref b272), .val (.int (5 : Int32)), .val (.ref x308), .val (.ref b313), .val (.long (p1 - ((5 : Int32).toInt64))), .second] [(.ref b313)])) rfl (by rw [hml]; rfl) (Steps.refl _) (argsL := []) (rest := []) (lenOf own_pd4 rfl) rfl (by show 2 * 0 + _ ≤ _; exact Nat.le_of_eq rfl) (hb hby at_141) (fun _ _ => ⟨rfl, eh329, (by decide : 3 + 0 ≤ _), (by decide : 9 + 0 ≤ _)⟩)
          dsimp only [Pt.U, Pt.locs, Pt.cells, Pt.slots] at X331 l331 y331 z331 st331 hQ331
          subst l331 y331 z331
          obtain ⟨N331q, rfl, eh331⟩ := hQ331
          have N332 := Fr.app N330 N331q
          refine own_tr st331 ?_
          show own_Go p e below s _ _ _ (T331.setTop (mkF m 144 #[.val (.long p1), .second, .val (.int p2), .val (.int p3), .val (.int p4), .val (.int (p2 &&& (3 : Int32))), .val (.ref b272), .val (.int (5 : Int32)), .val (.ref x308), .val (.ref b313), .val (.long (p1 - ((5 : Int32).toInt64))), .second] [(.ref b272)]))
          refine own_st (fun _ k => XS.aload X331.here hx rfl (hb hby at_144) rfl rfl k) ?_
          show own_Go p e below s _ _ _ (T331.setTop (mkF m 146 #[.val (.long p1), .second, .val (.int p2), .val (.int p3), .val (.int p4), .val (.int (p2 &&& (3 : Int32))), .val (.ref b272), .val (.int (5 : Int32)), .val (.ref x308), .val (.ref b313), .val (.long (p1 - ((5 : Int32).toInt64))), .second] [(.ref b272), (.ref b272)]))
          refine own_st (fun _ k => XT.acmpNo X331.here hx rfl (hb hby at_146) rfl rfl rfl (XT.aa_ne_f (congrArg Value.ref rfl)) k) ?_
          show own_Go p e below s _ _ _ (T331.setTop (mkF m 149 #[.val (.long p1), .second, .val (.int p2), .val (.int p3), .val (.int p4), .val (.int (p2 &&& (3 : Int32))), .val (.ref b272), .val (.int (5 : Int32)), .val (.ref x308), .val (.ref b313), .val (.long (p1 - ((5 : Int32).toInt64))), .second] []))
          refine own_st (fun _ k => XT.iconstV X331.here hx rfl (1 : Int32) (hb hby at_149) (by decide) k) ?_
          show own_Go p e below s _ _ _ (T331.setTop (mkF m 150 #[.val (.long p1), .second, .val (.int p2), .val (.int p3), .val (.int p4), .val (.int (p2 &&& (3 : Int32))), .val (.ref b272), .val (.int (5 : Int32)), .val (.ref x308), .val (.ref b313), .val (.long (p1 - ((5 : Int32).toInt64))), .second] [(.int (1 : Int32))]))
          refine own_st (fun _ k => XS.goto X331.here hx rfl (pc0 := 150) (pc' := 154) rfl (hb hby at_150) (by decide) (by decide) k) ?_
          show own_Go p e below s _ _ _ (T331.setTop (mkF m 154 #[.val (.long p1), .second, .val (.int p2), .val (.int p3), .val (.int p4), .val (.int (p2 &&& (3 : Int32))), .val (.ref b272), .val (.int (5 : Int32)), .val (.ref x308), .val (.ref b313), .val (.long (p1 - ((5 : Int32).toInt64))), .second] [(.int (1 : Int32))]))
          refine own_retN X331 hx hlk Bd.returns (t := .boolean) (z' := (1 : Int32)) (by simp) (by decide) (hb hby at_154) (by decide) (by decide) ?_
          rw [eh331]
          exact ⟨N332, rfl⟩
set_option maxRecDepth 65536 in
set_option maxHeartbeats 40000000 in
theorem comes_1 {Post : Tables → Env → Array Value → State → Outcome → State → Prop} (hpost : ∀ tb e args s v u, (limb_1_1.after args s (.returned v) u = true ∧ limb_1_2.after args s (.returned v) u = true ∧ True) → FrameEnd s (.returned v) u (Jvm.fieldLocs frame_1_writes args s ++ Jvm.arrayLocs frame_1_arrays args s ++ Jvm.staticLocs frame_1_statics s) 16 128 → Post tb e args s (.returned v) u) :
    ArmFor flags0 classFile x code maxLocals ret World_1 tables_1 room_1 Calls_1 rest_1 Pre_1 Post := by
  intro l hfl _ _ p e ha hc hk s m args below hf hA hF happ hP
  obtain ⟨hcalls, hrest, hpre⟩ := hP
  obtain ⟨-, -, -, hnamed, -, -, -, hat⟩ := (Spec.applies_iff hf).mp happ
  obtain ⟨hg, hn⟩ := and_e (Cond.before_iff.mp (show (Jvm.Cond.and given_1 narrow_1).before args s = true from hpre))
  obtain ⟨gg0, hg0⟩ := and_e hg
  obtain ⟨gg1, hg1⟩ := and_e hg0
  obtain ⟨gg2, hg2⟩ := and_e hg1
  obtain ⟨gg3, hg3⟩ := and_e hg2
  obtain ⟨w0, w1, w2, w3, rfl⟩ : ∃ w0 w1 w2 w3 : Value, args = #[w0, w1, w2, w3] := by
    have hs : args.size = 4 := by simpa [Cond.value, given_1] using gg0
    obtain ⟨L⟩ := args
    match L, hs with
    | [w0, w1, w2, w3], _ => exact ⟨w0, w1, w2, w3, rfl⟩
  have hw := fun d (hd : d ∈ tables_1) => atoms_spec (ws := Jvm.Cond.code x code maxLocals ret :: tables_1) hat d (List.mem_cons_of_mem _ hd)
  have hfit : Fit s := fun {y c} hc i hi => by
    obtain ⟨ha, rfl⟩ := Array.getElem?_eq_some_iff.mp hc
    have q := List.all_eq_true.mp ((Array.all_eq_true_iff_forall_mem.mp hF) _ (Array.getElem_mem ha)) i (List.mem_range.mpr hi)
    simpa [Array.getElem?_eq_getElem hi] using q
  obtain ⟨i0, ei0⟩ := isL_v gg1
  obtain rfl : w0 = (.long i0) := Option.some.inj ei0
  obtain ⟨i1, ei1⟩ := is_v gg2
  obtain rfl : w1 = (.int i1) := Option.some.inj ei1
  obtain ⟨i2, ei2⟩ := is_v gg3
  obtain rfl : w2 = (.int i2) := Option.some.inj ei2
  obtain ⟨i3, ei3⟩ := is_v hg3
  obtain rfl : w3 = (.int i3) := Option.some.inj ei3
  have hsets := (atoms_of jdkStatics_1 (rest_1_c_eq ▸ (show rest_1_c.before _ s = true from hrest))).1
  obtain ⟨a_cacheI, e_cacheI⟩ := arr_v (Cond.before_iff.mp (hsets _ (List.mem_of_getElem? (i := 4) rfl)))
  have S_cacheI : Sta s s.heap "java/lang/Integer$IntegerCache" "cache" "[Ljava/lang/Integer;" (.ref a_cacheI) := Sta.start e_cacheI (Or.inr ⟨(hw _ (List.mem_of_getElem? (i := 6) rfl)), (hsets _ (List.mem_of_getElem? (i := 2) rfl))⟩)
  have BxI : own_BoxI s a_cacheI := own_boxI e_cacheI (hsets _ (List.mem_of_getElem? (i := 4) rfl)) (hsets _ (List.mem_of_getElem? (i := 6) rfl)) (hsets _ (List.mem_of_getElem? (i := 7) rfl))
  have S_high : Sta s s.heap "java/lang/Integer$IntegerCache" "high" "I" (.int 127) := Sta.start (own_eqV (Cond.before_iff.mp (hsets _ (List.mem_of_getElem? (i := 3) rfl))) (Term.int_eval _)) (Or.inl (hsets _ (List.mem_of_getElem? (i := 1) rfl)))
  obtain ⟨n, o, h1, h2, h3, _, L, rfl, ⟨N, rfl⟩, hq⟩ := own_law l s _ hw tables_1 i0 i1 i2 i3 a_cacheI s.heap s.heap.size (Nat.le_refl _) (Old.start s) S_cacheI BxI S_high p e ha hc hk s m _ below hf ((Spec.applies_iff_loose hf).mp happ).1 ⟨rfl, State.Warmed39.refl s, rfl⟩ trivial
  refine ⟨n, _, h1, h2, h3, hpost _ _ _ _ _ _ ⟨Cond.after_iff.mpr rfl, Cond.after_iff.mpr (eq_i res_at (Term.int_eval (1)) rfl), trivial⟩ ⟨hq.1, hq.2.1, (hq.2.2.sift fun y hy => Or.inr (N y hy)).mono (by decide) (by decide)⟩⟩
theorem main_1_1 : Claimed_1_1 := comes_1 fun _ _ _ _ _ _ h hF => ⟨h.1, hF⟩
theorem main_1_2 : Claimed_1_2 := comes_1 fun _ _ _ _ _ _ h hF => ⟨h.2.1, hF⟩
end Jvm.Pilot.@@N@@
namespace Jvm.Pilot.@@N@@
open Jvm Jvm.ClassFile Sem Op Lib Jvm.Free Jvm.Stand Jvm.Pilot.@@N@@.Jvm.D
/-! MADE BY PROGRAM (witnessworld.py) out of the Statement's table words and the real class files: 17 classes; the members and pool entries that the words name. The judged class is class 1, her method 1. -/
namespace start1
open Jvm.ClassFile
def u (s : String) : CpInfo := .utf8 (stringToUtf16 s)
/-- a pool by its gaps: so many unusable entries, then the entry; so many at the end -/
def gap : Nat → List CpInfo → List CpInfo
  | 0, r => r
  | n + 1, r => .unusable :: gap n r
def poolList (es : List (Nat × CpInfo)) (last : Nat) : List CpInfo := es.foldr (fun e r => gap e.1 (e.2 :: r)) (gap last [])
def pool (es : List (Nat × CpInfo)) (last : Nat) : Array CpInfo := ⟨poolList es last⟩
def fileOf (pool : Array CpInfo) (this : Nat) (attrs : Array Attribute := #[]) (ms : Array MethodInfo := #[]) (fl : Nat := 33) (sup : Nat := 0) (ifs : Array Nat := #[]) (fds : Array FieldInfo := #[]) : ClassFile where
  minorVersion := 0
  majorVersion := 65
  constantPool := pool
  accessFlags := fl
  thisClass := this
  superClass := sup
  interfaces := ifs
  fields := fds
  methods := ms
  attributes := attrs
def plain (name : String) (sup : Option ClassId) : Class where
  name := name
  kind := .ordinary
  loader := none
  accessFlags := 33
  super := sup
  interfaces := #[]
  cf := none
  fields := #[]
  methods := #[]
  instanceTypes := #[]
  staticTypes := #[]
  resolved := #[]
  callSites := []
  init := .initialized
  statics := none
  mirror := none

def pool0 : Array CpInfo := pool [(5, u "<init>"), (0, u "()V"), (1, .class_ 10), (1, u "java/lang/Object")] 113

def k0c0 : Code := { maxStack := 0, maxLocals := 1, code := object_method_1_code, exceptionTable := #[], attributes := #[] }
def k0m0 : Method := { name := "<init>", desc := "()V", sig := { parameters := [], returnType := none }, accessFlags := 1, code := some k0c0 }
/-- java/lang/Object -/
def k0 : Class := { plain "java/lang/Object" none with
  accessFlags := 33
  interfaces := #[]
  cf := some (fileOf pool0 8 #[] #[{ accessFlags := 1, nameIndex := 5, descriptorIndex := 6, attributes := #[] }] 33 0 #[] #[])
  fields := #[]
  methods := #[k0m0]
  instanceTypes := #[]
  staticTypes := #[]
  resolved := Array.replicate 124 none
  statics := none }

def pool1 : Array CpInfo := pool [(2, .class_ 4), (1, u "java/lang/Object"), (0, u "<init>"), (0, u "()V"), (0, .methodref 8 9), (0, .class_ 10), (0, .nameAndType 11 12), (0, u "java/lang/Integer"), (0, u "valueOf"), (0, u "(I)Ljava/lang/Integer;"), (0, .class_ 14), (0, u "com/example/wache/wache/ListFile$Mark"), (0, .methodref 13 16), (0, .nameAndType 5 17), (0, u "(Ljava/lang/Object;J[B)V"), (0, .methodref 13 19), (0, .nameAndType 20 21), (0, u "lastLineStart"), (0, u "()J"), (0, .methodref 13 23), (0, .nameAndType 24 21), (0, u "offset"), (0, .methodref 13 26), (0, .nameAndType 27 28), (0, u "lastLine"), (0, u "()[B"), (0, .class_ 30), (0, u "com/example/wache/wache/MarkLastLineStartPinLaw"), (2, u "law"), (0, u "(JIII)Z")] 9

def k1m0 : Method := { name := "<init>", desc := "()V", sig := { parameters := [], returnType := none }, accessFlags := 1, code := none }
def k1c1 : Code := { maxStack := 6, maxLocals := 12, code := code, exceptionTable := #[], attributes := #[] }
def k1m1 : Method := { name := "law", desc := "(JIII)Z", sig := { parameters := [.long, .int, .int, .int], returnType := some .boolean }, accessFlags := 9, code := some k1c1 }
/-- com/example/wache/wache/MarkLastLineStartPinLaw -/
def k1 : Class := { plain "com/example/wache/wache/MarkLastLineStartPinLaw" (some 0) with
  accessFlags := 49
  interfaces := #[]
  cf := some (fileOf pool1 29 #[] #[{ accessFlags := 1, nameIndex := 5, descriptorIndex := 6, attributes := #[] }, { accessFlags := 9, nameIndex := 33, descriptorIndex := 34, attributes := #[] }] 49 2 #[] #[])
  fields := #[]
  methods := #[k1m0, k1m1]
  instanceTypes := #[]
  staticTypes := #[]
  resolved := Array.replicate 44 none
  statics := none }

def pool2 : Array CpInfo := pool [(1, .class_ 2), (0, u "java/io/Serializable"), (0, .class_ 4), (0, u "java/lang/Object")] 2

/-- java/io/Serializable -/
def k2 : Class := { plain "java/io/Serializable" (some 0) with
  accessFlags := 1537
  interfaces := #[]
  cf := some (fileOf pool2 1 #[] #[] 1537 3 #[] #[])
  fields := #[]
  methods := #[]
  instanceTypes := #[]
  staticTypes := #[]
  resolved := Array.replicate 7 none
  statics := none }

def pool3 : Array CpInfo := pool [(1, .methodref 2 3), (0, .class_ 4), (0, .nameAndType 5 6), (0, u "java/lang/Object"), (0, u "<init>"), (0, u "()V"), (1, .class_ 10), (1, u "java/lang/Number"), (2, .class_ 14), (0, u "java/io/Serializable"), (0, u "serialVersionUID"), (0, u "J")] 20

def k3c0 : Code := { maxStack := 1, maxLocals := 1, code := jdk_18_method_1_code, exceptionTable := #[], attributes := #[] }
def k3m0 : Method := { name := "<init>", desc := "()V", sig := { parameters := [], returnType := none }, accessFlags := 1, code := some k3c0 }
/-- java/lang/Number -/
def k3 : Class := { plain "java/lang/Number" (some 0) with
  accessFlags := 1057
  interfaces := #[2]
  cf := some (fileOf pool3 8 #[] #[{ accessFlags := 1, nameIndex := 5, descriptorIndex := 6, attributes := #[] }] 1057 2 #[13] #[{ accessFlags := 26, nameIndex := 15, descriptorIndex := 16, attributes := #[] }])
  fields := #[{ name := "serialVersionUID", type := .long, accessFlags := 26, slot := 0, constantValue := 0 }]
  methods := #[k3m0]
  instanceTypes := #[]
  staticTypes := #[.long]
  resolved := Array.replicate 37 none
  statics := none }

def pool4 : Array CpInfo := pool [(1, .class_ 2), (0, u "java/lang/Comparable"), (0, .class_ 4), (0, u "java/lang/Object")] 7

/-- java/lang/Comparable -/
def k4 : Class := { plain "java/lang/Comparable" (some 0) with
  accessFlags := 1537
  interfaces := #[]
  cf := some (fileOf pool4 1 #[] #[] 1537 3 #[] #[])
  fields := #[]
  methods := #[]
  instanceTypes := #[]
  staticTypes := #[]
  resolved := Array.replicate 12 none
  statics := none }

def pool5 : Array CpInfo := pool [(1, .class_ 2), (0, u "java/lang/constant/Constable"), (0, .class_ 4), (0, u "java/lang/Object")] 6

/-- java/lang/constant/Constable -/
def k5 : Class := { plain "java/lang/constant/Constable" (some 0) with
  accessFlags := 1537
  interfaces := #[]
  cf := some (fileOf pool5 1 #[] #[] 1537 3 #[] #[])
  fields := #[]
  methods := #[]
  instanceTypes := #[]
  staticTypes := #[]
  resolved := Array.replicate 11 none
  statics := none }

def pool6 : Array CpInfo := pool [(1, .class_ 2), (0, u "java/lang/constant/ConstantDesc"), (0, .class_ 4), (0, u "java/lang/Object")] 32

/-- java/lang/constant/ConstantDesc -/
def k6 : Class := { plain "java/lang/constant/ConstantDesc" (some 0) with
  accessFlags := 1537
  interfaces := #[]
  cf := some (fileOf pool6 1 #[] #[] 1537 3 #[] #[])
  fields := #[]
  methods := #[]
  instanceTypes := #[]
  staticTypes := #[]
  resolved := Array.replicate 37 none
  statics := none }

def pool7 : Array CpInfo := pool [(1, .class_ 2), (0, u "java/lang/Integer"), (16, u "digits"), (0, u "[C"), (46, u "<init>"), (17, u "DigitOnes"), (0, u "[B"), (2, u "DigitTens"), (10, .nameAndType 67 101), (0, u "()V"), (85, u "valueOf"), (0, u "(I)Ljava/lang/Integer;"), (0, .class_ 190), (0, u "java/lang/Integer$IntegerCache"), (0, .fieldref 189 192), (0, .nameAndType 193 194), (0, u "high"), (0, u "I"), (0, .fieldref 189 196), (0, .nameAndType 197 198), (0, u "cache"), (0, u "[Ljava/lang/Integer;"), (0, .methodref 1 200), (0, .nameAndType 67 201), (0, u "(I)V"), (0, .methodref 203 100), (0, .class_ 204), (0, u "java/lang/Number"), (0, .fieldref 1 206), (0, .nameAndType 207 194), (0, u "value"), (94, u "TYPE"), (0, u "Ljava/lang/Class;"), (0, .class_ 305), (0, u "java/lang/Comparable"), (0, .class_ 307), (0, u "java/lang/constant/Constable"), (0, .class_ 309), (0, u "java/lang/constant/ConstantDesc"), (0, u "MIN_VALUE"), (1, u "MAX_VALUE"), (3, u "SIZE"), (1, u "BYTES"), (1, u "serialVersionUID"), (0, u "J")] 131

def k7c0 : Code := { maxStack := 3, maxLocals := 1, code := jdk_33_method_22_code, exceptionTable := #[], attributes := #[] }
def k7m0 : Method := { name := "valueOf", desc := "(I)Ljava/lang/Integer;", sig := { parameters := [.int], returnType := some (.object "java/lang/Integer") }, accessFlags := 9, code := some k7c0 }
def k7c1 : Code := { maxStack := 2, maxLocals := 2, code := jdk_33_method_23_code, exceptionTable := #[], attributes := #[] }
def k7m1 : Method := { name := "<init>", desc := "(I)V", sig := { parameters := [.int], returnType := none }, accessFlags := 1, code := some k7c1 }
/-- java/lang/Integer -/
def k7 : Class := { plain "java/lang/Integer" (some 3) with
  accessFlags := 49
  interfaces := #[4, 5, 6]
  cf := some (fileOf pool7 1 #[.nestMembers #[189]] #[{ accessFlags := 9, nameIndex := 187, descriptorIndex := 188, attributes := #[] }, { accessFlags := 1, nameIndex := 67, descriptorIndex := 201, attributes := #[] }] 49 203 #[304, 306, 308] #[{ accessFlags := 25, nameIndex := 310, descriptorIndex := 194, attributes := #[] }, { accessFlags := 25, nameIndex := 312, descriptorIndex := 194, attributes := #[] }, { accessFlags := 25, nameIndex := 302, descriptorIndex := 303, attributes := #[] }, { accessFlags := 24, nameIndex := 19, descriptorIndex := 20, attributes := #[] }, { accessFlags := 24, nameIndex := 89, descriptorIndex := 86, attributes := #[] }, { accessFlags := 24, nameIndex := 85, descriptorIndex := 86, attributes := #[] }, { accessFlags := 18, nameIndex := 207, descriptorIndex := 194, attributes := #[] }, { accessFlags := 25, nameIndex := 316, descriptorIndex := 194, attributes := #[] }, { accessFlags := 25, nameIndex := 318, descriptorIndex := 194, attributes := #[] }, { accessFlags := 26, nameIndex := 320, descriptorIndex := 321, attributes := #[] }])
  fields := #[{ name := "MIN_VALUE", type := .int, accessFlags := 25, slot := 0, constantValue := 0 }, { name := "MAX_VALUE", type := .int, accessFlags := 25, slot := 1, constantValue := 0 }, { name := "TYPE", type := (.object "java/lang/Class"), accessFlags := 25, slot := 2, constantValue := 0 }, { name := "digits", type := (.array .char), accessFlags := 24, slot := 3, constantValue := 0 }, { name := "DigitTens", type := (.array .byte), accessFlags := 24, slot := 4, constantValue := 0 }, { name := "DigitOnes", type := (.array .byte), accessFlags := 24, slot := 5, constantValue := 0 }, { name := "value", type := .int, accessFlags := 18, slot := 0, constantValue := 0 }, { name := "SIZE", type := .int, accessFlags := 25, slot := 6, constantValue := 0 }, { name := "BYTES", type := .int, accessFlags := 25, slot := 7, constantValue := 0 }, { name := "serialVersionUID", type := .long, accessFlags := 26, slot := 8, constantValue := 0 }]
  methods := #[k7m0, k7m1]
  instanceTypes := #[.int]
  staticTypes := #[.int, .int, (.object "java/lang/Class"), (.array .char), (.array .byte), (.array .byte), .int, .int, .long]
  resolved := Array.replicate 453 none
  statics := none }

def pool8 : Array CpInfo := pool [(2, .class_ 4), (1, u "java/lang/Object"), (0, u "<init>"), (0, u "()V"), (0, .class_ 8), (0, u "java/lang/Integer"), (7, .class_ 18), (1, u "java/lang/Integer$IntegerCache"), (0, u "$assertionsDisabled"), (0, u "Z"), (26, u "high"), (0, u "I"), (8, u "archivedCache"), (0, u "[Ljava/lang/Integer;"), (12, u "cache"), (0, u "low")] 27

def k8m0 : Method := { name := "<init>", desc := "()V", sig := { parameters := [], returnType := none }, accessFlags := 2, code := none }
/-- java/lang/Integer$IntegerCache -/
def k8 : Class := { plain "java/lang/Integer$IntegerCache" (some 0) with
  accessFlags := 48
  interfaces := #[]
  cf := some (fileOf pool8 16 #[.nestHost 7] #[{ accessFlags := 2, nameIndex := 5, descriptorIndex := 6, attributes := #[] }] 48 2 #[] #[{ accessFlags := 24, nameIndex := 72, descriptorIndex := 48, attributes := #[] }, { accessFlags := 24, nameIndex := 47, descriptorIndex := 48, attributes := #[] }, { accessFlags := 24, nameIndex := 71, descriptorIndex := 58, attributes := #[] }, { accessFlags := 8, nameIndex := 57, descriptorIndex := 58, attributes := #[] }, { accessFlags := 4120, nameIndex := 19, descriptorIndex := 20, attributes := #[] }])
  fields := #[{ name := "low", type := .int, accessFlags := 24, slot := 0, constantValue := 0 }, { name := "high", type := .int, accessFlags := 24, slot := 1, constantValue := 0 }, { name := "cache", type := (.array (.object "java/lang/Integer")), accessFlags := 24, slot := 2, constantValue := 0 }, { name := "archivedCache", type := (.array (.object "java/lang/Integer")), accessFlags := 8, slot := 3, constantValue := 0 }, { name := "$assertionsDisabled", type := .boolean, accessFlags := 4120, slot := 4, constantValue := 0 }]
  methods := #[k8m0]
  instanceTypes := #[]
  staticTypes := #[.int, .int, (.array (.object "java/lang/Integer")), (.array (.object "java/lang/Integer")), .boolean]
  resolved := Array.replicate 100 none
  statics := some 0 }

def pool9 : Array CpInfo := pool [(1, .methodref 2 3), (0, .class_ 4), (0, .nameAndType 5 6), (0, u "java/lang/Object"), (0, u "<init>"), (0, u "()V"), (0, .class_ 8), (0, u "java/lang/Record")] 13

def k9c0 : Code := { maxStack := 1, maxLocals := 1, code := jdk_30_method_1_code, exceptionTable := #[], attributes := #[] }
def k9m0 : Method := { name := "<init>", desc := "()V", sig := { parameters := [], returnType := none }, accessFlags := 4, code := some k9c0 }
/-- java/lang/Record -/
def k9 : Class := { plain "java/lang/Record" (some 0) with
  accessFlags := 1057
  interfaces := #[]
  cf := some (fileOf pool9 7 #[] #[{ accessFlags := 4, nameIndex := 5, descriptorIndex := 6, attributes := #[] }] 1057 2 #[] #[])
  fields := #[]
  methods := #[k9m0]
  instanceTypes := #[]
  staticTypes := #[]
  resolved := Array.replicate 22 none
  statics := none }

def pool10 : Array CpInfo := pool [(1, .methodref 2 3), (0, .class_ 4), (0, .nameAndType 5 6), (0, u "java/lang/Record"), (0, u "<init>"), (0, u "()V"), (0, .fieldref 8 9), (0, .class_ 10), (0, .nameAndType 11 12), (0, u "com/example/wache/wache/ListFile$Mark"), (0, u "fileKey"), (0, u "Ljava/lang/Object;"), (0, .fieldref 8 14), (0, .nameAndType 15 16), (0, u "offset"), (0, u "J"), (0, .fieldref 8 18), (0, .nameAndType 19 20), (0, u "lastLine"), (0, u "[B"), (12, u "(Ljava/lang/Object;J[B)V"), (3, u "lastLineStart"), (0, u "()J"), (4, u "()[B"), (3, .class_ 48), (0, u "com/example/wache/wache/ListFile")] 21

def k10c0 : Code := { maxStack := 3, maxLocals := 5, code := prog_16_method_1_code, exceptionTable := #[], attributes := #[] }
def k10m0 : Method := { name := "<init>", desc := "(Ljava/lang/Object;J[B)V", sig := { parameters := [(.object "java/lang/Object"), .long, (.array .byte)], returnType := none }, accessFlags := 0, code := some k10c0 }
def k10c1 : Code := { maxStack := 4, maxLocals := 1, code := prog_16_method_2_code, exceptionTable := #[], attributes := #[] }
def k10m1 : Method := { name := "lastLineStart", desc := "()J", sig := { parameters := [], returnType := some .long }, accessFlags := 0, code := some k10c1 }
def k10c2 : Code := { maxStack := 2, maxLocals := 1, code := prog_16_method_7_code, exceptionTable := #[], attributes := #[] }
def k10m2 : Method := { name := "offset", desc := "()J", sig := { parameters := [], returnType := some .long }, accessFlags := 1, code := some k10c2 }
def k10c3 : Code := { maxStack := 1, maxLocals := 1, code := prog_16_method_8_code, exceptionTable := #[], attributes := #[] }
def k10m3 : Method := { name := "lastLine", desc := "()[B", sig := { parameters := [], returnType := some (.array .byte) }, accessFlags := 1, code := some k10c3 }
/-- com/example/wache/wache/ListFile$Mark -/
def k10 : Class := { plain "com/example/wache/wache/ListFile$Mark" (some 9) with
  accessFlags := 48
  interfaces := #[]
  cf := some (fileOf pool10 8 #[.nestHost 47] #[{ accessFlags := 0, nameIndex := 5, descriptorIndex := 33, attributes := #[] }, { accessFlags := 0, nameIndex := 37, descriptorIndex := 38, attributes := #[] }, { accessFlags := 1, nameIndex := 15, descriptorIndex := 38, attributes := #[] }, { accessFlags := 1, nameIndex := 19, descriptorIndex := 43, attributes := #[] }] 48 2 #[] #[{ accessFlags := 18, nameIndex := 11, descriptorIndex := 12, attributes := #[] }, { accessFlags := 18, nameIndex := 15, descriptorIndex := 16, attributes := #[] }, { accessFlags := 18, nameIndex := 19, descriptorIndex := 20, attributes := #[] }])
  fields := #[{ name := "fileKey", type := (.object "java/lang/Object"), accessFlags := 18, slot := 0, constantValue := 0 }, { name := "offset", type := .long, accessFlags := 18, slot := 1, constantValue := 0 }, { name := "lastLine", type := (.array .byte), accessFlags := 18, slot := 2, constantValue := 0 }]
  methods := #[k10m0, k10m1, k10m2, k10m3]
  instanceTypes := #[(.object "java/lang/Object"), .long, (.array .byte)]
  staticTypes := #[]
  resolved := Array.replicate 70 none
  statics := none }

def pool11 : Array CpInfo := pool [(1, u "java/lang/Cloneable"), (0, .class_ 1), (0, u "java/lang/Object"), (0, .class_ 3)] 3

/-- java/lang/Cloneable -/
def k11 : Class := { plain "java/lang/Cloneable" (some 0) with
  accessFlags := 1537
  interfaces := #[]
  cf := some (fileOf pool11 2 #[] #[] 1537 4 #[] #[])
  fields := #[]
  methods := #[]
  instanceTypes := #[]
  staticTypes := #[]
  resolved := Array.replicate 8 none
  statics := none }

/-- the primitive byte -/
def k12 : Class := { plain "byte" none with kind := .primitive 'B', accessFlags := 0x411 }
/-- [B -/
def k13 : Class := { plain "[B" (some 0) with kind := .array 12 .byte, interfaces := #[11, 2], accessFlags := 1041 }

/-- the primitive int -/
def k14 : Class := { plain "int" none with kind := .primitive 'I', accessFlags := 0x411 }
/-- [I -/
def k15 : Class := { plain "[I" (some 0) with kind := .array 14 .int, interfaces := #[11, 2], accessFlags := 1041 }

/-- [Ljava/lang/Integer; -/
def k16 : Class := { plain "[Ljava/lang/Integer;" (some 0) with kind := .array 7 (.object "java/lang/Integer"), interfaces := #[11, 2], accessFlags := 1041 }

def heap : Heap := #[{ cls := 8, slots := #[.int 0, .int 127, .ref 1, .null, .int 0], vm := .statics 8 },
  { cls := 16, slots := #[.ref 2, .ref 3, .ref 4, .ref 5, .ref 6, .ref 7, .ref 8, .ref 9, .ref 10, .ref 11, .ref 12, .ref 13, .ref 14, .ref 15, .ref 16, .ref 17, .ref 18, .ref 19, .ref 20, .ref 21, .ref 22, .ref 23, .ref 24, .ref 25, .ref 26, .ref 27, .ref 28, .ref 29, .ref 30, .ref 31, .ref 32, .ref 33, .ref 34, .ref 35, .ref 36, .ref 37, .ref 38, .ref 39, .ref 40, .ref 41, .ref 42, .ref 43, .ref 44, .ref 45, .ref 46, .ref 47, .ref 48, .ref 49, .ref 50, .ref 51, .ref 52, .ref 53, .ref 54, .ref 55, .ref 56, .ref 57, .ref 58, .ref 59, .ref 60, .ref 61, .ref 62, .ref 63, .ref 64, .ref 65, .ref 66, .ref 67, .ref 68, .ref 69, .ref 70, .ref 71, .ref 72, .ref 73, .ref 74, .ref 75, .ref 76, .ref 77, .ref 78, .ref 79, .ref 80, .ref 81, .ref 82, .ref 83, .ref 84, .ref 85, .ref 86, .ref 87, .ref 88, .ref 89, .ref 90, .ref 91, .ref 92, .ref 93, .ref 94, .ref 95, .ref 96, .ref 97, .ref 98, .ref 99, .ref 100, .ref 101, .ref 102, .ref 103, .ref 104, .ref 105, .ref 106, .ref 107, .ref 108, .ref 109, .ref 110, .ref 111, .ref 112, .ref 113, .ref 114, .ref 115, .ref 116, .ref 117, .ref 118, .ref 119, .ref 120, .ref 121, .ref 122, .ref 123, .ref 124, .ref 125, .ref 126, .ref 127, .ref 128, .ref 129, .ref 130, .ref 131, .ref 132, .ref 133, .ref 134, .ref 135, .ref 136, .ref 137, .ref 138, .ref 139, .ref 140, .ref 141, .ref 142, .ref 143, .ref 144, .ref 145, .ref 146, .ref 147, .ref 148, .ref 149, .ref 150, .ref 151, .ref 152, .ref 153, .ref 154, .ref 155, .ref 156, .ref 157, .ref 158, .ref 159, .ref 160, .ref 161, .ref 162, .ref 163, .ref 164, .ref 165, .ref 166, .ref 167, .ref 168, .ref 169, .ref 170, .ref 171, .ref 172, .ref 173, .ref 174, .ref 175, .ref 176, .ref 177, .ref 178, .ref 179, .ref 180, .ref 181, .ref 182, .ref 183, .ref 184, .ref 185, .ref 186, .ref 187, .ref 188, .ref 189, .ref 190, .ref 191, .ref 192, .ref 193, .ref 194, .ref 195, .ref 196, .ref 197, .ref 198, .ref 199, .ref 200, .ref 201, .ref 202, .ref 203, .ref 204, .ref 205, .ref 206, .ref 207, .ref 208, .ref 209, .ref 210, .ref 211, .ref 212, .ref 213, .ref 214, .ref 215, .ref 216, .ref 217, .ref 218, .ref 219, .ref 220, .ref 221, .ref 222, .ref 223, .ref 224, .ref 225, .ref 226, .ref 227, .ref 228, .ref 229, .ref 230, .ref 231, .ref 232, .ref 233, .ref 234, .ref 235, .ref 236, .ref 237, .ref 238, .ref 239, .ref 240, .ref 241, .ref 242, .ref 243, .ref 244, .ref 245, .ref 246, .ref 247, .ref 248, .ref 249, .ref 250, .ref 251, .ref 252, .ref 253, .ref 254, .ref 255, .ref 256, .ref 257], vm := .none },
  { cls := 7, slots := #[.int (-128)], vm := .none },
  { cls := 7, slots := #[.int (-127)], vm := .none },
  { cls := 7, slots := #[.int (-126)], vm := .none },
  { cls := 7, slots := #[.int (-125)], vm := .none },
  { cls := 7, slots := #[.int (-124)], vm := .none },
  { cls := 7, slots := #[.int (-123)], vm := .none },
  { cls := 7, slots := #[.int (-122)], vm := .none },
  { cls := 7, slots := #[.int (-121)], vm := .none },
  { cls := 7, slots := #[.int (-120)], vm := .none },
  { cls := 7, slots := #[.int (-119)], vm := .none },
  { cls := 7, slots := #[.int (-118)], vm := .none },
  { cls := 7, slots := #[.int (-117)], vm := .none },
  { cls := 7, slots := #[.int (-116)], vm := .none },
  { cls := 7, slots := #[.int (-115)], vm := .none },
  { cls := 7, slots := #[.int (-114)], vm := .none },
  { cls := 7, slots := #[.int (-113)], vm := .none },
  { cls := 7, slots := #[.int (-112)], vm := .none },
  { cls := 7, slots := #[.int (-111)], vm := .none },
  { cls := 7, slots := #[.int (-110)], vm := .none },
  { cls := 7, slots := #[.int (-109)], vm := .none },
  { cls := 7, slots := #[.int (-108)], vm := .none },
  { cls := 7, slots := #[.int (-107)], vm := .none },
  { cls := 7, slots := #[.int (-106)], vm := .none },
  { cls := 7, slots := #[.int (-105)], vm := .none },
  { cls := 7, slots := #[.int (-104)], vm := .none },
  { cls := 7, slots := #[.int (-103)], vm := .none },
  { cls := 7, slots := #[.int (-102)], vm := .none },
  { cls := 7, slots := #[.int (-101)], vm := .none },
  { cls := 7, slots := #[.int (-100)], vm := .none },
  { cls := 7, slots := #[.int (-99)], vm := .none },
  { cls := 7, slots := #[.int (-98)], vm := .none },
  { cls := 7, slots := #[.int (-97)], vm := .none },
  { cls := 7, slots := #[.int (-96)], vm := .none },
  { cls := 7, slots := #[.int (-95)], vm := .none },
  { cls := 7, slots := #[.int (-94)], vm := .none },
  { cls := 7, slots := #[.int (-93)], vm := .none },
  { cls := 7, slots := #[.int (-92)], vm := .none },
  { cls := 7, slots := #[.int (-91)], vm := .none },
  { cls := 7, slots := #[.int (-90)], vm := .none },
  { cls := 7, slots := #[.int (-89)], vm := .none },
  { cls := 7, slots := #[.int (-88)], vm := .none },
  { cls := 7, slots := #[.int (-87)], vm := .none },
  { cls := 7, slots := #[.int (-86)], vm := .none },
  { cls := 7, slots := #[.int (-85)], vm := .none },
  { cls := 7, slots := #[.int (-84)], vm := .none },
  { cls := 7, slots := #[.int (-83)], vm := .none },
  { cls := 7, slots := #[.int (-82)], vm := .none },
  { cls := 7, slots := #[.int (-81)], vm := .none },
  { cls := 7, slots := #[.int (-80)], vm := .none },
  { cls := 7, slots := #[.int (-79)], vm := .none },
  { cls := 7, slots := #[.int (-78)], vm := .none },
  { cls := 7, slots := #[.int (-77)], vm := .none },
  { cls := 7, slots := #[.int (-76)], vm := .none },
  { cls := 7, slots := #[.int (-75)], vm := .none },
  { cls := 7, slots := #[.int (-74)], vm := .none },
  { cls := 7, slots := #[.int (-73)], vm := .none },
  { cls := 7, slots := #[.int (-72)], vm := .none },
  { cls := 7, slots := #[.int (-71)], vm := .none },
  { cls := 7, slots := #[.int (-70)], vm := .none },
  { cls := 7, slots := #[.int (-69)], vm := .none },
  { cls := 7, slots := #[.int (-68)], vm := .none },
  { cls := 7, slots := #[.int (-67)], vm := .none },
  { cls := 7, slots := #[.int (-66)], vm := .none },
  { cls := 7, slots := #[.int (-65)], vm := .none },
  { cls := 7, slots := #[.int (-64)], vm := .none },
  { cls := 7, slots := #[.int (-63)], vm := .none },
  { cls := 7, slots := #[.int (-62)], vm := .none },
  { cls := 7, slots := #[.int (-61)], vm := .none },
  { cls := 7, slots := #[.int (-60)], vm := .none },
  { cls := 7, slots := #[.int (-59)], vm := .none },
  { cls := 7, slots := #[.int (-58)], vm := .none },
  { cls := 7, slots := #[.int (-57)], vm := .none },
  { cls := 7, slots := #[.int (-56)], vm := .none },
  { cls := 7, slots := #[.int (-55)], vm := .none },
  { cls := 7, slots := #[.int (-54)], vm := .none },
  { cls := 7, slots := #[.int (-53)], vm := .none },
  { cls := 7, slots := #[.int (-52)], vm := .none },
  { cls := 7, slots := #[.int (-51)], vm := .none },
  { cls := 7, slots := #[.int (-50)], vm := .none },
  { cls := 7, slots := #[.int (-49)], vm := .none },
  { cls := 7, slots := #[.int (-48)], vm := .none },
  { cls := 7, slots := #[.int (-47)], vm := .none },
  { cls := 7, slots := #[.int (-46)], vm := .none },
  { cls := 7, slots := #[.int (-45)], vm := .none },
  { cls := 7, slots := #[.int (-44)], vm := .none },
  { cls := 7, slots := #[.int (-43)], vm := .none },
  { cls := 7, slots := #[.int (-42)], vm := .none },
  { cls := 7, slots := #[.int (-41)], vm := .none },
  { cls := 7, slots := #[.int (-40)], vm := .none },
  { cls := 7, slots := #[.int (-39)], vm := .none },
  { cls := 7, slots := #[.int (-38)], vm := .none },
  { cls := 7, slots := #[.int (-37)], vm := .none },
  { cls := 7, slots := #[.int (-36)], vm := .none },
  { cls := 7, slots := #[.int (-35)], vm := .none },
  { cls := 7, slots := #[.int (-34)], vm := .none },
  { cls := 7, slots := #[.int (-33)], vm := .none },
  { cls := 7, slots := #[.int (-32)], vm := .none },
  { cls := 7, slots := #[.int (-31)], vm := .none },
  { cls := 7, slots := #[.int (-30)], vm := .none },
  { cls := 7, slots := #[.int (-29)], vm := .none },
  { cls := 7, slots := #[.int (-28)], vm := .none },
  { cls := 7, slots := #[.int (-27)], vm := .none },
  { cls := 7, slots := #[.int (-26)], vm := .none },
  { cls := 7, slots := #[.int (-25)], vm := .none },
  { cls := 7, slots := #[.int (-24)], vm := .none },
  { cls := 7, slots := #[.int (-23)], vm := .none },
  { cls := 7, slots := #[.int (-22)], vm := .none },
  { cls := 7, slots := #[.int (-21)], vm := .none },
  { cls := 7, slots := #[.int (-20)], vm := .none },
  { cls := 7, slots := #[.int (-19)], vm := .none },
  { cls := 7, slots := #[.int (-18)], vm := .none },
  { cls := 7, slots := #[.int (-17)], vm := .none },
  { cls := 7, slots := #[.int (-16)], vm := .none },
  { cls := 7, slots := #[.int (-15)], vm := .none },
  { cls := 7, slots := #[.int (-14)], vm := .none },
  { cls := 7, slots := #[.int (-13)], vm := .none },
  { cls := 7, slots := #[.int (-12)], vm := .none },
  { cls := 7, slots := #[.int (-11)], vm := .none },
  { cls := 7, slots := #[.int (-10)], vm := .none },
  { cls := 7, slots := #[.int (-9)], vm := .none },
  { cls := 7, slots := #[.int (-8)], vm := .none },
  { cls := 7, slots := #[.int (-7)], vm := .none },
  { cls := 7, slots := #[.int (-6)], vm := .none },
  { cls := 7, slots := #[.int (-5)], vm := .none },
  { cls := 7, slots := #[.int (-4)], vm := .none },
  { cls := 7, slots := #[.int (-3)], vm := .none },
  { cls := 7, slots := #[.int (-2)], vm := .none },
  { cls := 7, slots := #[.int (-1)], vm := .none },
  { cls := 7, slots := #[.int 0], vm := .none },
  { cls := 7, slots := #[.int 1], vm := .none },
  { cls := 7, slots := #[.int 2], vm := .none },
  { cls := 7, slots := #[.int 3], vm := .none },
  { cls := 7, slots := #[.int 4], vm := .none },
  { cls := 7, slots := #[.int 5], vm := .none },
  { cls := 7, slots := #[.int 6], vm := .none },
  { cls := 7, slots := #[.int 7], vm := .none },
  { cls := 7, slots := #[.int 8], vm := .none },
  { cls := 7, slots := #[.int 9], vm := .none },
  { cls := 7, slots := #[.int 10], vm := .none },
  { cls := 7, slots := #[.int 11], vm := .none },
  { cls := 7, slots := #[.int 12], vm := .none },
  { cls := 7, slots := #[.int 13], vm := .none },
  { cls := 7, slots := #[.int 14], vm := .none },
  { cls := 7, slots := #[.int 15], vm := .none },
  { cls := 7, slots := #[.int 16], vm := .none },
  { cls := 7, slots := #[.int 17], vm := .none },
  { cls := 7, slots := #[.int 18], vm := .none },
  { cls := 7, slots := #[.int 19], vm := .none },
  { cls := 7, slots := #[.int 20], vm := .none },
  { cls := 7, slots := #[.int 21], vm := .none },
  { cls := 7, slots := #[.int 22], vm := .none },
  { cls := 7, slots := #[.int 23], vm := .none },
  { cls := 7, slots := #[.int 24], vm := .none },
  { cls := 7, slots := #[.int 25], vm := .none },
  { cls := 7, slots := #[.int 26], vm := .none },
  { cls := 7, slots := #[.int 27], vm := .none },
  { cls := 7, slots := #[.int 28], vm := .none },
  { cls := 7, slots := #[.int 29], vm := .none },
  { cls := 7, slots := #[.int 30], vm := .none },
  { cls := 7, slots := #[.int 31], vm := .none },
  { cls := 7, slots := #[.int 32], vm := .none },
  { cls := 7, slots := #[.int 33], vm := .none },
  { cls := 7, slots := #[.int 34], vm := .none },
  { cls := 7, slots := #[.int 35], vm := .none },
  { cls := 7, slots := #[.int 36], vm := .none },
  { cls := 7, slots := #[.int 37], vm := .none },
  { cls := 7, slots := #[.int 38], vm := .none },
  { cls := 7, slots := #[.int 39], vm := .none },
  { cls := 7, slots := #[.int 40], vm := .none },
  { cls := 7, slots := #[.int 41], vm := .none },
  { cls := 7, slots := #[.int 42], vm := .none },
  { cls := 7, slots := #[.int 43], vm := .none },
  { cls := 7, slots := #[.int 44], vm := .none },
  { cls := 7, slots := #[.int 45], vm := .none },
  { cls := 7, slots := #[.int 46], vm := .none },
  { cls := 7, slots := #[.int 47], vm := .none },
  { cls := 7, slots := #[.int 48], vm := .none },
  { cls := 7, slots := #[.int 49], vm := .none },
  { cls := 7, slots := #[.int 50], vm := .none },
  { cls := 7, slots := #[.int 51], vm := .none },
  { cls := 7, slots := #[.int 52], vm := .none },
  { cls := 7, slots := #[.int 53], vm := .none },
  { cls := 7, slots := #[.int 54], vm := .none },
  { cls := 7, slots := #[.int 55], vm := .none },
  { cls := 7, slots := #[.int 56], vm := .none },
  { cls := 7, slots := #[.int 57], vm := .none },
  { cls := 7, slots := #[.int 58], vm := .none },
  { cls := 7, slots := #[.int 59], vm := .none },
  { cls := 7, slots := #[.int 60], vm := .none },
  { cls := 7, slots := #[.int 61], vm := .none },
  { cls := 7, slots := #[.int 62], vm := .none },
  { cls := 7, slots := #[.int 63], vm := .none },
  { cls := 7, slots := #[.int 64], vm := .none },
  { cls := 7, slots := #[.int 65], vm := .none },
  { cls := 7, slots := #[.int 66], vm := .none },
  { cls := 7, slots := #[.int 67], vm := .none },
  { cls := 7, slots := #[.int 68], vm := .none },
  { cls := 7, slots := #[.int 69], vm := .none },
  { cls := 7, slots := #[.int 70], vm := .none },
  { cls := 7, slots := #[.int 71], vm := .none },
  { cls := 7, slots := #[.int 72], vm := .none },
  { cls := 7, slots := #[.int 73], vm := .none },
  { cls := 7, slots := #[.int 74], vm := .none },
  { cls := 7, slots := #[.int 75], vm := .none },
  { cls := 7, slots := #[.int 76], vm := .none },
  { cls := 7, slots := #[.int 77], vm := .none },
  { cls := 7, slots := #[.int 78], vm := .none },
  { cls := 7, slots := #[.int 79], vm := .none },
  { cls := 7, slots := #[.int 80], vm := .none },
  { cls := 7, slots := #[.int 81], vm := .none },
  { cls := 7, slots := #[.int 82], vm := .none },
  { cls := 7, slots := #[.int 83], vm := .none },
  { cls := 7, slots := #[.int 84], vm := .none },
  { cls := 7, slots := #[.int 85], vm := .none },
  { cls := 7, slots := #[.int 86], vm := .none },
  { cls := 7, slots := #[.int 87], vm := .none },
  { cls := 7, slots := #[.int 88], vm := .none },
  { cls := 7, slots := #[.int 89], vm := .none },
  { cls := 7, slots := #[.int 90], vm := .none },
  { cls := 7, slots := #[.int 91], vm := .none },
  { cls := 7, slots := #[.int 92], vm := .none },
  { cls := 7, slots := #[.int 93], vm := .none },
  { cls := 7, slots := #[.int 94], vm := .none },
  { cls := 7, slots := #[.int 95], vm := .none },
  { cls := 7, slots := #[.int 96], vm := .none },
  { cls := 7, slots := #[.int 97], vm := .none },
  { cls := 7, slots := #[.int 98], vm := .none },
  { cls := 7, slots := #[.int 99], vm := .none },
  { cls := 7, slots := #[.int 100], vm := .none },
  { cls := 7, slots := #[.int 101], vm := .none },
  { cls := 7, slots := #[.int 102], vm := .none },
  { cls := 7, slots := #[.int 103], vm := .none },
  { cls := 7, slots := #[.int 104], vm := .none },
  { cls := 7, slots := #[.int 105], vm := .none },
  { cls := 7, slots := #[.int 106], vm := .none },
  { cls := 7, slots := #[.int 107], vm := .none },
  { cls := 7, slots := #[.int 108], vm := .none },
  { cls := 7, slots := #[.int 109], vm := .none },
  { cls := 7, slots := #[.int 110], vm := .none },
  { cls := 7, slots := #[.int 111], vm := .none },
  { cls := 7, slots := #[.int 112], vm := .none },
  { cls := 7, slots := #[.int 113], vm := .none },
  { cls := 7, slots := #[.int 114], vm := .none },
  { cls := 7, slots := #[.int 115], vm := .none },
  { cls := 7, slots := #[.int 116], vm := .none },
  { cls := 7, slots := #[.int 117], vm := .none },
  { cls := 7, slots := #[.int 118], vm := .none },
  { cls := 7, slots := #[.int 119], vm := .none },
  { cls := 7, slots := #[.int 120], vm := .none },
  { cls := 7, slots := #[.int 121], vm := .none },
  { cls := 7, slots := #[.int 122], vm := .none },
  { cls := 7, slots := #[.int 123], vm := .none },
  { cls := 7, slots := #[.int 124], vm := .none },
  { cls := 7, slots := #[.int 125], vm := .none },
  { cls := 7, slots := #[.int 126], vm := .none },
  { cls := 7, slots := #[.int 127], vm := .none }]
def classes : Array Class := #[k0, k1, k2, k3, k4, k5, k6, k7, k8, k9, k10, k11, k12, k13, k14, k15, k16]
def interned : List (Array UInt16 × Addr) := []
def slotsUsed : Nat := 517
def theMethod : MethodId := ⟨1, 1⟩
def args0 : Array Value := #[.long 5, .int 6, .int 3, .int 9]
def aboutOver (below : List Frame) : State where
  vm := { classes := classes, interned := interned.toArray }
  heap := heap
  slotsUsed := slotsUsed
  threads := #[{ frames := .invoking theMethod args0 :: below }]
def below0 : List Frame := [.native { method := ⟨0, 0⟩, args := #[] }]
def about1 : State := aboutOver below0
def p0 : Program := .bare "" "" ""
def e0 : Env := launch0.env 0 0 0
theorem w_frames : about1.frames = Frame.invoking theMethod args0 :: below0 := rfl
set_option maxRecDepth 65536 in
theorem w_args : argsFit about1.vm theMethod args0 = true := by decide +kernel
set_option maxRecDepth 65536 in
theorem w_heap : heapFits about1 = true := by decide +kernel
set_option maxRecDepth 65536 in
theorem w_runnable : about1.curStatus? = some .runnable := by decide +kernel
set_option maxRecDepth 65536 in
theorem w_alone : about1.alone = true := by decide +kernel
set_option maxRecDepth 65536 in
theorem w_named : about1.methodNamed? x = some theMethod := by decide +kernel
set_option maxRecDepth 65536 in
theorem w_hears : about1.hears theMethod below0 = true := by decide +kernel
set_option maxRecDepth 65536 in
theorem w_ripe : about1.ripe theMethod args0 below0 = true := by decide +kernel
theorem w_running : about1.status = .running := rfl
set_option maxRecDepth 65536 in
theorem w_room : about1.hasRoom e0.platform room_1 = true :=
  launch0.hasRoom_least _ room_1 (by decide +kernel) (by decide +kernel) (by decide +kernel) (by decide +kernel) (by decide +kernel) (by decide +kernel)
theorem allAtoms_all (ts : List Jvm.Cond) (a : Array Jvm.Value) (st : Jvm.State) : (allAtoms ts).before a st = ts.all (fun c => c.before a st) := by
  induction ts with
  | nil => rfl
  | cons c t ih =>
    show (Jvm.Cond.and c (allAtoms t)).before a st = _
    rw [Jvm.Cond.before_and, ih, List.all_cons]
def words1 : List Jvm.Cond := Jvm.Cond.code x code maxLocals ret :: tables_1
/-- a 'code' word, met by the world's own term for the bytes: nothing is compared byte by byte -/
theorem code_word {y : MethodName} {bytes : ByteArray} {mx : Nat} {rt : Option FieldType} {a : Array Value} {s : State} {m : MethodId} {meth : Method} {c : Code} (h1 : s.methodNamed? y = some m) (h2 : s.vm.method? m = some meth) (h3 : meth.code = some c) (h4 : c.code = bytes)
    (h5 : (c.maxLocals == mx && c.exceptionTable.isEmpty && decide (c.maxStack ≤ mostOperands) && decide (meth.sig.returnType = rt) && !meth.locks && decide (parseMethodDescriptor y.desc = some meth.sig)) = true) : (Jvm.Cond.code y bytes mx rt).before a s = true := by
  simp only [Bool.and_eq_true, beq_iff_eq, Bool.not_eq_true', decide_eq_true_eq] at h5
  obtain ⟨⟨⟨⟨⟨g1, g2⟩, g3⟩, g4⟩, g5⟩, g6⟩ := h5
  simp [Cond.before, Cond.holds, Cond.value, h1, h2, h3, h4, g1, g2, g3, g4, g5, g6]
def isCode : Jvm.Cond → Bool
  | .code _ _ _ _ => true
  | _ => false
theorem all_split {L : List Jvm.Cond} {P : Jvm.Cond → Bool} (h1 : L.all (fun c => isCode c || P c) = true) (h2 : ∀ c ∈ L.filter isCode, P c = true) : L.all P = true := by
  refine List.all_eq_true.mpr fun c hc => ?_
  have h := List.all_eq_true.mp h1 c hc
  rcases Bool.eq_false_or_eq_true (isCode c) with hi | hi
  · exact h2 c (List.mem_filter.mpr ⟨hc, hi⟩)
  · simpa [hi] using h
set_option maxRecDepth 65536 in
theorem w_c0 : (Jvm.Cond.code x code maxLocals ret).before args0 about1 = true := code_word (m := ⟨1, 1⟩) (meth := k1m1) (c := k1c1) (by decide +kernel) rfl rfl rfl (by decide +kernel)
set_option maxRecDepth 65536 in
theorem w_c1 : (Jvm.Cond.code ({ cls := "java/lang/Integer", name := "valueOf", desc := "(I)Ljava/lang/Integer;" } : Jvm.MethodName) jdk_33_method_22_code (1 : Nat) (Option.some (Jvm.ClassFile.FieldType.object "java/lang/Integer"))).before args0 about1 = true := code_word (m := ⟨7, 0⟩) (meth := k7m0) (c := k7c0) (by decide +kernel) rfl rfl rfl (by decide +kernel)
set_option maxRecDepth 65536 in
theorem w_c2 : (Jvm.Cond.code ({ cls := "com/example/wache/wache/ListFile$Mark", name := "<init>", desc := "(Ljava/lang/Object;J[B)V" } : Jvm.MethodName) prog_16_method_1_code (5 : Nat) (Option.none : Option Jvm.ClassFile.FieldType)).before args0 about1 = true := code_word (m := ⟨10, 0⟩) (meth := k10m0) (c := k10c0) (by decide +kernel) rfl rfl rfl (by decide +kernel)
set_option maxRecDepth 65536 in
theorem w_c3 : (Jvm.Cond.code ({ cls := "java/lang/Record", name := "<init>", desc := "()V" } : Jvm.MethodName) jdk_30_method_1_code (1 : Nat) (Option.none : Option Jvm.ClassFile.FieldType)).before args0 about1 = true := code_word (m := ⟨9, 0⟩) (meth := k9m0) (c := k9c0) (by decide +kernel) rfl rfl rfl (by decide +kernel)
set_option maxRecDepth 65536 in
theorem w_c4 : (Jvm.Cond.code ({ cls := "java/lang/Object", name := "<init>", desc := "()V" } : Jvm.MethodName) object_method_1_code (1 : Nat) (Option.none : Option Jvm.ClassFile.FieldType)).before args0 about1 = true := code_word (m := ⟨0, 0⟩) (meth := k0m0) (c := k0c0) (by decide +kernel) rfl rfl rfl (by decide +kernel)
set_option maxRecDepth 65536 in
theorem w_c5 : (Jvm.Cond.code ({ cls := "com/example/wache/wache/ListFile$Mark", name := "lastLineStart", desc := "()J" } : Jvm.MethodName) prog_16_method_2_code (1 : Nat) (Option.some Jvm.ClassFile.FieldType.long)).before args0 about1 = true := code_word (m := ⟨10, 1⟩) (meth := k10m1) (c := k10c1) (by decide +kernel) rfl rfl rfl (by decide +kernel)
set_option maxRecDepth 65536 in
theorem w_c6 : (Jvm.Cond.code ({ cls := "com/example/wache/wache/ListFile$Mark", name := "offset", desc := "()J" } : Jvm.MethodName) prog_16_method_7_code (1 : Nat) (Option.some Jvm.ClassFile.FieldType.long)).before args0 about1 = true := code_word (m := ⟨10, 2⟩) (meth := k10m2) (c := k10c2) (by decide +kernel) rfl rfl rfl (by decide +kernel)
set_option maxRecDepth 65536 in
theorem w_c7 : (Jvm.Cond.code ({ cls := "com/example/wache/wache/ListFile$Mark", name := "lastLine", desc := "()[B" } : Jvm.MethodName) prog_16_method_8_code (1 : Nat) (Option.some (Jvm.ClassFile.FieldType.array Jvm.ClassFile.FieldType.byte))).before args0 about1 = true := code_word (m := ⟨10, 3⟩) (meth := k10m3) (c := k10c3) (by decide +kernel) rfl rfl rfl (by decide +kernel)
set_option maxRecDepth 65536 in
theorem w_c8 : (Jvm.Cond.code ({ cls := "java/lang/Integer", name := "<init>", desc := "(I)V" } : Jvm.MethodName) jdk_33_method_23_code (2 : Nat) (Option.none : Option Jvm.ClassFile.FieldType)).before args0 about1 = true := code_word (m := ⟨7, 1⟩) (meth := k7m1) (c := k7c1) (by decide +kernel) rfl rfl rfl (by decide +kernel)
set_option maxRecDepth 65536 in
theorem w_c9 : (Jvm.Cond.code ({ cls := "java/lang/Number", name := "<init>", desc := "()V" } : Jvm.MethodName) jdk_18_method_1_code (1 : Nat) (Option.none : Option Jvm.ClassFile.FieldType)).before args0 about1 = true := code_word (m := ⟨3, 0⟩) (meth := k3m0) (c := k3c0) (by decide +kernel) rfl rfl rfl (by decide +kernel)
def codes1 : List Jvm.Cond := [Jvm.Cond.code x code maxLocals ret, Jvm.Cond.code ({ cls := "java/lang/Integer", name := "valueOf", desc := "(I)Ljava/lang/Integer;" } : Jvm.MethodName) jdk_33_method_22_code (1 : Nat) (Option.some (Jvm.ClassFile.FieldType.object "java/lang/Integer")), Jvm.Cond.code ({ cls := "com/example/wache/wache/ListFile$Mark", name := "<init>", desc := "(Ljava/lang/Object;J[B)V" } : Jvm.MethodName) prog_16_method_1_code (5 : Nat) (Option.none : Option Jvm.ClassFile.FieldType), Jvm.Cond.code ({ cls := "java/lang/Record", name := "<init>", desc := "()V" } : Jvm.MethodName) jdk_30_method_1_code (1 : Nat) (Option.none : Option Jvm.ClassFile.FieldType), Jvm.Cond.code ({ cls := "java/lang/Object", name := "<init>", desc := "()V" } : Jvm.MethodName) object_method_1_code (1 : Nat) (Option.none : Option Jvm.ClassFile.FieldType), Jvm.Cond.code ({ cls := "com/example/wache/wache/ListFile$Mark", name := "lastLineStart", desc := "()J" } : Jvm.MethodName) prog_16_method_2_code (1 : Nat) (Option.some Jvm.ClassFile.FieldType.long), Jvm.Cond.code ({ cls := "com/example/wache/wache/ListFile$Mark", name := "offset", desc := "()J" } : Jvm.MethodName) prog_16_method_7_code (1 : Nat) (Option.some Jvm.ClassFile.FieldType.long), Jvm.Cond.code ({ cls := "com/example/wache/wache/ListFile$Mark", name := "lastLine", desc := "()[B" } : Jvm.MethodName) prog_16_method_8_code (1 : Nat) (Option.some (Jvm.ClassFile.FieldType.array Jvm.ClassFile.FieldType.byte)), Jvm.Cond.code ({ cls := "java/lang/Integer", name := "<init>", desc := "(I)V" } : Jvm.MethodName) jdk_33_method_23_code (2 : Nat) (Option.none : Option Jvm.ClassFile.FieldType), Jvm.Cond.code ({ cls := "java/lang/Number", name := "<init>", desc := "()V" } : Jvm.MethodName) jdk_18_method_1_code (1 : Nat) (Option.none : Option Jvm.ClassFile.FieldType)]
set_option maxRecDepth 65536 in
theorem codes_eq : words1.filter isCode = codes1 := rfl
theorem w_codes : ∀ c ∈ words1.filter isCode, c.before args0 about1 = true := by
  rw [codes_eq]
  intro c hc
  simp only [codes1, List.mem_cons, List.not_mem_nil, or_false] at hc
  rcases hc with rfl | rfl | rfl | rfl | rfl | rfl | rfl | rfl | rfl | rfl
  · exact w_c0
  · exact w_c1
  · exact w_c2
  · exact w_c3
  · exact w_c4
  · exact w_c5
  · exact w_c6
  · exact w_c7
  · exact w_c8
  · exact w_c9
set_option maxRecDepth 65536 in
theorem w_t1 : (words1.take 24).all (fun c => isCode c || c.before args0 about1) = true := by decide +kernel
set_option maxRecDepth 65536 in
theorem w_t2 : ((words1.drop 24).take 24).all (fun c => isCode c || c.before args0 about1) = true := by decide +kernel
set_option maxRecDepth 65536 in
theorem w_t3 : ((words1.drop 24).drop 24).all (fun c => isCode c || c.before args0 about1) = true := by decide +kernel
theorem w_tables : (allAtoms (Jvm.Cond.code x code maxLocals ret :: tables_1)).before args0 about1 = true := by
  rw [allAtoms_all]
  show words1.all (fun c => c.before args0 about1) = true
  refine all_split ?_ w_codes
  rw [← List.take_append_drop 24 words1, List.all_append, w_t1, ← List.take_append_drop 24 (words1.drop 24), List.all_append, w_t2, w_t3]
  rfl
set_option maxRecDepth 65536 in
theorem w_rest : rest_1_c.before args0 about1 = true := by decide +kernel
set_option maxRecDepth 65536 in
theorem w_case : (Jvm.Cond.and given_1 narrow_1).before args0 about1 = true := by decide +kernel
theorem w_applies : (headSpec (Jvm.Cond.code x code maxLocals ret :: tables_1) room_1).applies x e0.platform about1 = true :=
  (Spec.applies_iff w_frames).mpr ⟨w_running, w_runnable, w_alone, w_named, w_hears, w_ripe, w_room, w_tables⟩
theorem atStart : AtStart classFile x code maxLocals ret World_1 tables_1 room_1 Calls_1 rest_1 Pre_1 launch0 p0 e0 about1 theMethod args0 below0 :=
  ⟨lists_1, trivial, launch0.admits_env _ _ _, launch0.least_env, fairChoices_fair.cas, fairChoices_fair.clock, w_frames, w_args, w_heap, w_applies, trivial, w_rest, w_case⟩
end start1
theorem witness_1 : WitnessClaimed_1 := ⟨start1.p0, start1.e0, start1.about1, start1.theMethod, start1.args0, start1.below0, start1.atStart⟩
end Jvm.Pilot.@@N@@
