import JvmDerived
import JvmDerived.Pilot.@@N@@Statement
import JvmDerived.Pilot.@@N@@Code
set_option linter.unusedVariables false
set_option linter.unusedSimpArgs false
@@BLOCK:NumsL.lean.txt@@
namespace Jvm.RoadKit
open Sem ClassFile Op Lib Jvm.Stand Jvm.Free Jvm.LawKit
section New
variable {p : Program} {l : Launch} {e : Env} {R : Room} {s : State} {m : MethodId} {args : Array Value} {below : List Frame} {meth : Method} {c : Code} {T : State} {locs : List Loc} {cells slots : Nat}
theorem retI (X : Stand p l e R s m args below meth c T locs cells slots) (hx : p.tables.exec = Jvm.exec) {pc : Nat} {Ls : Array Slot} {z : Int32} {rest : List Value} (hret : meth.sig.returnType = some .int) (hd : decode c.code pc = .ok (.ireturn, 1)) {fs : List Frame}
    (hl : ∀ (f : JFrame) (acts : List Action), f.method = m → f.locked = none → f.entered = [] → (doReturn e (T.setTop f) acts (some (.int z))).1 = T.setFrames fs) : Steps p.tables e below (T.setTop (mkF m pc Ls (.int z :: rest))) (T.setFrames fs) := by
  have hm' : T.vm.method? m = some meth := X.method'
  have hn : narrow .int (.int z) = .int z := rfl
  show Steps p.tables e below (T.setTop { method := m, pc := pc, locals := Ls, stack := _ :: rest, locked := none }) _
  jvm_step X.here [X.here.top, hx, hd, hm', hret, hn]
  first | (intro acts; rw [hl _ acts rfl rfl rfl]) | rw [hl _ _ rfl rfl rfl]
  exact Steps.refl _
end New
section Own
variable {p : Program} {l : Launch} {e : Env} {R : Room} {s : State} {m : MethodId} {args : Array Value} {below : List Frame} {meth : Method} {c : Code} {T A B : State} {locs : List Loc} {cells slots k n : Nat} {Q : Option Value → Heap → List Loc → Prop}
/-- from A the walk comes to its end, and Q holds there -/
def own_Go (p : Program) (e : Env) (below : List Frame) (s : State) (Q : Option Value → Heap → List Loc → Prop) (k n : Nat) (A : State) : Prop :=
  ∃ s₂ o, Steps p.tables e below A s₂ ∧ s₂.status = .running ∧ Ended s₂ below o ∧ ∃ v L, o = .returned v ∧ Q v s₂.heap L ∧ FrameEnd s o s₂ L k n
theorem own_st (h : ∀ t, Steps p.tables e below B t → Steps p.tables e below A t) (g : own_Go p e below s Q k n B) : own_Go p e below s Q k n A := by
  obtain ⟨s₂, o, h1, r⟩ := g
  exact ⟨s₂, o, h _ h1, r⟩
theorem own_tr (h : Steps p.tables e below A B) (g : own_Go p e below s Q k n B) : own_Go p e below s Q k n A := own_st (fun _ q => h.trans q) g
theorem own_end (X : Stand p l e R s m args below meth c T locs cells slots) (hlk : meth.locks = false) {v : Option Value} (hv : meth.sig.returnType = none → v = none) (hk : cells ≤ k) (hn : slots ≤ n) (hQ : Q v T.heap locs) {g : JFrame}
    (hgo : ∀ fs, (∀ (f : JFrame) (acts : List Action), f.method = m → f.locked = none → f.entered = [] → (doReturn e (T.setTop f) acts v).1 = T.setFrames fs) → Steps p.tables e below (T.setTop g) (T.setFrames fs)) : own_Go p e below s Q k n (T.setTop g) := by
  obtain ⟨fs, hr, hrun, hended, hW, hsame⟩ := X.leave hv hlk
  exact ⟨_, _, hgo fs hr, hrun, hended, v, locs, rfl, hQ, ⟨_, rfl⟩, hW, hsame.mono hk hn⟩
theorem own_retI (X : Stand p l e R s m args below meth c T locs cells slots) (hx : p.tables.exec = Jvm.exec) (hlk : meth.locks = false) {pc : Nat} {Ls : Array Slot} {z : Int32} {rest : List Value} (hret : meth.sig.returnType = some .int) (hd : decode c.code pc = .ok (.ireturn, 1)) (hk : cells ≤ k) (hn : slots ≤ n) (hQ : Q (some (.int z)) T.heap locs) :
    own_Go p e below s Q k n (T.setTop (mkF m pc Ls (.int z :: rest))) := own_end X hlk (fun h => by rw [hret] at h; cases h) hk hn hQ fun fs hr => retI X hx hret hd hr
theorem own_retN (X : Stand p l e R s m args below meth c T locs cells slots) (hx : p.tables.exec = Jvm.exec) (hlk : meth.locks = false) {pc : Nat} {Ls : Array Slot} {z z' : Int32} {rest : List Value} {t : FieldType} (hret : meth.sig.returnType = some t) (ht : t = .boolean ∨ t = .byte ∨ t = .char ∨ t = .short) (hz : nar t z = z') (hd : decode c.code pc = .ok (.ireturn, 1)) (hk : cells ≤ k) (hn : slots ≤ n) (hQ : Q (some (.int z')) T.heap locs) :
    own_Go p e below s Q k n (T.setTop (mkF m pc Ls (.int z :: rest))) := own_end X hlk (v := some (.int (nar t z))) (fun h => by rw [hret] at h; cases h) hk hn (hz ▸ hQ) fun fs hr => retN X hx hret ht hd hr
theorem own_retJ (X : Stand p l e R s m args below meth c T locs cells slots) (hx : p.tables.exec = Jvm.exec) (hlk : meth.locks = false) {pc : Nat} {Ls : Array Slot} {z : Int64} {rest : List Value} (hret : meth.sig.returnType = some .long) (hd : decode c.code pc = .ok (.lreturn, 1)) (hk : cells ≤ k) (hn : slots ≤ n) (hQ : Q (some (.long z)) T.heap locs) :
    own_Go p e below s Q k n (T.setTop (mkF m pc Ls (.long z :: rest))) := own_end X hlk (fun h => by rw [hret] at h; cases h) hk hn hQ fun fs hr => retOut X hx hret rfl (Or.inr (Or.inl ⟨rfl, rfl, _, rfl⟩)) hd hr
theorem own_retA (X : Stand p l e R s m args below meth c T locs cells slots) (hx : p.tables.exec = Jvm.exec) (hlk : meth.locks = false) {pc : Nat} {Ls : Array Slot} {w : Value} {t : FieldType} {rest : List Value} (hret : meth.sig.returnType = some t) (hw : w.isRef = true) (hd : decode c.code pc = .ok (.areturn, 1)) (hk : cells ≤ k) (hn : slots ≤ n) (hQ : Q (some w) T.heap locs) (ht : t.isReference = true := by rfl) :
    own_Go p e below s Q k n (T.setTop (mkF m pc Ls (w :: rest))) := own_end X hlk (fun h => by rw [hret] at h; cases h) hk hn hQ fun fs hr => retOut X hx hret (by cases w <;> first | (cases hw; done) | (cases t <;> first | (cases ht; done) | rfl)) (Or.inr (Or.inr (Or.inr (Or.inr ⟨rfl, ht, hw⟩)))) hd hr
theorem own_ret0 (X : Stand p l e R s m args below meth c T locs cells slots) (hx : p.tables.exec = Jvm.exec) (hlk : meth.locks = false) {pc : Nat} {Ls : Array Slot} (hret : meth.sig.returnType = none) (hd : decode c.code pc = .ok (.return_, 1)) (hk : cells ≤ k) (hn : slots ≤ n) (hQ : Q none T.heap locs) :
    own_Go p e below s Q k n (T.setTop (mkF m pc Ls [])) := own_end X hlk (fun _ => rfl) hk hn hQ fun fs hr => X.returnOut hx hret hd hr
end Own
theorem own_narR {C : String} {v : Value} (h : v.isRef = true) : narrow (.object C) v = v := by cases v <;> first | rfl | (cases h; done)
theorem own_fitR {C : String} {v : Value} (h : v.isRef = true) : fits (.object C) v = true := by cases v <;> first | rfl | (cases h; done)
theorem own_hp {T : State} {h : Heap} {a : Addr} {c : Cell} (e : T.heap = h) (q : h[a]? = some c) : T.heap[a]? = some c := e ▸ q
theorem own_pad (n : Nat) (d : Value) (i : Nat) : (List.replicate n d).getD i d = ([] : List Value).getD i d := by
  have h := pad_rep [] d n i
  simpa using h
end Jvm.RoadKit
namespace Jvm.Pilot.@@N@@
open Jvm Jvm.ClassFile Sem Op Lib Jvm.Free Jvm.Stand Jvm.LawKit Jvm.RoadKit Bundle Jvm.Pilot.@@N@@.Jvm.D
theorem own_eqV {args : Array Value} {first s : State} {o : Option Outcome} {idx : List Nat} {t u : Term} {w : Value} (h : (Cond.eq t u).value args first o s idx = some true) (hu : u.eval args first o idx s = some w) : t.eval args first o idx s = some w := by
  simp only [Cond.value, hu] at h
  cases ht : t.eval args first o idx s with
  | none => simp [ht] at h
  | some v => cases v <;> cases w <;> simp_all

theorem own_rem (x n : Int32) (hn : 0 < n.toInt) : 0 ≤ ((x &&& (2147483647 : Int32)) % n).toInt ∧ ((x &&& (2147483647 : Int32)) % n).toInt < n.toInt := by
  have h : ¬ (x &&& (2147483647 : Int32)) < 0 := by
    rw [XT.and_neg32]
    intro h
    exact absurd h.2 (by decide)
  rw [XT.negI32] at h
  rw [Int32.toInt_mod]
  exact ⟨Int.tmod_nonneg _ (by omega), Int.tmod_lt_of_pos _ hn⟩
theorem own_nat {k : Int32} {n : Nat} (hn : n ≤ 2147483647) (h0 : 0 ≤ k.toInt) (h1 : k.toInt < n) : ∃ i : Nat, i < n ∧ k = i.toInt32 :=
  ⟨k.toInt.toNat, by omega, Int32.toInt_inj.mp (by rw [len_toInt (by omega)]; omega)⟩
theorem own_remN (x m : Int32) (n : Nat) (hm : m.toInt = n) (hn : 0 < n) (hn' : n ≤ 2147483647) : ∃ i : Nat, i < n ∧ (x &&& (2147483647 : Int32)) % m = i.toInt32 := by
  have h := own_rem x m (by omega)
  exact own_nat hn' h.1 (by omega)
theorem own_neI {args : Array Value} {s : State} {t : Term} {x k : Int32} (h : (Cond.not (Cond.eq t (.int k))).before args s = true) (e : t.eval args s none [] s = some (.int x)) : ¬ x = k := by
  have h1 := not_v (Cond.before_iff.mp h)
  have h2 : (Cond.eq t (.int k)).value args s none s [] = some (decide (x = k)) := by simp [Cond.value, e, Term.eval]
  exact gotF h2 h1
theorem own_d_jdk_30_method_1_code_0 : decode jdk_30_method_1_code 0 = .ok (.aload_n 0, 1) := by decide +kernel
theorem own_d_jdk_30_method_1_code_1 : decode jdk_30_method_1_code 1 = .ok (.invokespecial 1, 3) := by decide +kernel
theorem own_d_jdk_30_method_1_code_4 : decode jdk_30_method_1_code 4 = .ok (.return_, 1) := by decide +kernel
theorem own_pn0 : plainFor (⟨"java/lang/Record", "<init>", "()V"⟩ : MethodName) = true := by decide +kernel
def own_rm_record_Q (Z : State) (r : Addr) (h0 : Heap) (n0 : Nat) (v : Option Value) (h : Heap) (L : List Loc) : Prop := Fr n0 L ∧ v = none ∧ h = h0
theorem own_rm_record_ef (m : MethodId) (r : Addr) : entryFrame m #[(.ref r)] 1 = mkF m 0 #[.val (.ref r)] [] := by first | (simp [entryFrame, mkF, argsToLocals, Value.category]; done) | rfl
set_option maxRecDepth 65536 in
set_option maxHeartbeats 40000000 in
theorem own_rm_record (l : Launch) (Z : State) (a0 : Array Value) (hw : ∀ d ∈ tables_1, d.before a0 Z = true) (ws : List Jvm.Cond) (r : Addr) (h0 : Heap) (n0 : Nat) (Z0 : n0 ≤ h0.size)  :
    MetFree l (⟨"java/lang/Record", "<init>", "()V"⟩ : MethodName) (head1 (Jvm.Cond.code (⟨"java/lang/Record", "<init>", "()V"⟩ : MethodName) jdk_30_method_1_code 1 none :: ws) ({ frames := 1, cells := 0, slots := 0, locals := 12 } : Room)) (fun a U => a = #[(.ref r)] ∧ Z.Warmed39 U.vm ∧ U.heap = h0) (fun _ _ _ _ _ => True) (fun _ U o U' => ∃ v L, o = .returned v ∧ own_rm_record_Q Z r h0 n0 v U'.heap L ∧ FrameEnd U o U' L ({ frames := 1, cells := 0, slots := 0, locals := 12 } : Room).cells ({ frames := 1, cells := 0, slots := 0, locals := 12 } : Room).slots) := by
  refine MetFree.of_bodySF own_pn0 hisR ?_
  intro p e s m args below meth c s₁ Bd hml0 hP hK
  obtain ⟨rfl, hZ, hh⟩ := hP
  have hx := Bd.exec
  have hby := Bd.bytes
  have hml : c.maxLocals = 1 := hml0
  have hlk := BodyLoose.notSynchronized Bd
  have hown : s.vm.findClass "java/lang/Record" = some m.cls := findClass_of_methodNamed Bd.named
  have hnm := (name_of_methodNamed Bd.named Bd.method).1
  have X0 : Stand p l e ({ frames := 1, cells := 0, slots := 0, locals := 12 } : Room) s m #[(.ref r)] below meth c s₁ [] 0 0 := Stand.of_body Bd
  have e0 : s₁.heap = h0 := by rw [← hh, Bd.state]; rfl
  have N0 := Fr.nil n0
  show own_Go p e below s (own_rm_record_Q Z r h0 n0) ({ frames := 1, cells := 0, slots := 0, locals := 12 } : Room).cells ({ frames := 1, cells := 0, slots := 0, locals := 12 } : Room).slots (s₁.setTop (entryFrame m #[(.ref r)] 1))
  rw [own_rm_record_ef]
  show own_Go p e below s _ _ _ (s₁.setTop (mkF m 0 #[.val (.ref r)] []))
  refine own_st (fun _ k => XS.aloadN X0.here hx rfl (hb hby own_d_jdk_30_method_1_code_0) rfl rfl k) ?_
  show own_Go p e below s _ _ _ (s₁.setTop (mkF m 1 #[.val (.ref r)] [(.ref r)]))
  obtain ⟨T1, X1, e1, st1⟩ := initO X0 hx hZ hown (hw _ (List.mem_of_getElem? (i := 39) rfl)) (hw _ (List.mem_of_getElem? (i := 25) rfl)) (hw _ (List.mem_of_getElem? (i := 26) rfl)) e0 (g := (mkF m 1 #[.val (.ref r)] [(.ref r)])) rfl (by rw [hml]; rfl) rfl (hb hby own_d_jdk_30_method_1_code_1) (by decide) (W := 0) (by show 2 * 0 + _ ≤ _; exact Nat.le_of_eq rfl) (by decide)
  refine own_st st1 ?_
  show own_Go p e below s _ _ _ (T1.setTop (mkF m 4 #[.val (.ref r)] []))
  refine own_ret0 X1 hx hlk Bd.returns (hb hby own_d_jdk_30_method_1_code_4) (by decide) (by decide) ?_
  rw [e1]
  exact ⟨N0, rfl, rfl⟩
theorem own_d_jdk_43_method_3_code_0 : decode jdk_43_method_3_code 0 = .ok (.iload_n 0, 1) := by decide +kernel
theorem own_d_jdk_43_method_3_code_1 : decode jdk_43_method_3_code 1 = .ok (.sipush 255, 3) := by decide +kernel
theorem own_d_jdk_43_method_3_code_4 : decode jdk_43_method_3_code 4 = .ok (.if_icmp .gt 7, 3) := by decide +kernel
theorem own_d_jdk_43_method_3_code_7 : decode jdk_43_method_3_code 7 = .ok (.iconst 1, 1) := by decide +kernel
theorem own_d_jdk_43_method_3_code_8 : decode jdk_43_method_3_code 8 = .ok (.goto 4, 3) := by decide +kernel
theorem own_d_jdk_43_method_3_code_11 : decode jdk_43_method_3_code 11 = .ok (.iconst 0, 1) := by decide +kernel
theorem own_d_jdk_43_method_3_code_12 : decode jdk_43_method_3_code 12 = .ok (.ireturn, 1) := by decide +kernel
theorem own_pn1 : plainFor (⟨"java/lang/StringLatin1", "canEncode", "(C)Z"⟩ : MethodName) = true := by decide +kernel
def own_rm_can_Q (Z : State) (p1 : Int32) (h0 : Heap) (n0 : Nat) (v : Option Value) (h : Heap) (L : List Loc) : Prop := Fr n0 L ∧ v = some (.int (if (255 : Int32) < p1 then (0 : Int32) else 1)) ∧ h = h0
theorem own_rm_can_ef (m : MethodId) (p1 : Int32) : entryFrame m #[(.int p1)] 1 = mkF m 0 #[.val (.int p1)] [] := by first | (simp [entryFrame, mkF, argsToLocals, Value.category]; done) | rfl
set_option maxRecDepth 65536 in
set_option maxHeartbeats 40000000 in
theorem own_rm_can (l : Launch) (Z : State) (a0 : Array Value) (hw : ∀ d ∈ tables_1, d.before a0 Z = true) (ws : List Jvm.Cond) (p1 : Int32) (h0 : Heap) (n0 : Nat) (Z0 : n0 ≤ h0.size)  :
    MetFree l (⟨"java/lang/StringLatin1", "canEncode", "(C)Z"⟩ : MethodName) (head1 (Jvm.Cond.code (⟨"java/lang/StringLatin1", "canEncode", "(C)Z"⟩ : MethodName) jdk_43_method_3_code 1 (some .boolean) :: ws) ({ frames := 0, cells := 0, slots := 0, locals := 0 } : Room)) (fun a U => a = #[(.int p1)] ∧ Z.Warmed39 U.vm ∧ U.heap = h0) (fun _ _ _ _ _ => True) (fun _ U o U' => ∃ v L, o = .returned v ∧ own_rm_can_Q Z p1 h0 n0 v U'.heap L ∧ FrameEnd U o U' L ({ frames := 0, cells := 0, slots := 0, locals := 0 } : Room).cells ({ frames := 0, cells := 0, slots := 0, locals := 0 } : Room).slots) := by
  refine MetFree.of_bodySF own_pn1 hisR ?_
  intro p e s m args below meth c s₁ Bd hml0 hP hK
  obtain ⟨rfl, hZ, hh⟩ := hP
  have hx := Bd.exec
  have hby := Bd.bytes
  have hml : c.maxLocals = 1 := hml0
  have hlk := BodyLoose.notSynchronized Bd
  have hown : s.vm.findClass "java/lang/StringLatin1" = some m.cls := findClass_of_methodNamed Bd.named
  have hnm := (name_of_methodNamed Bd.named Bd.method).1
  have X0 : Stand p l e ({ frames := 0, cells := 0, slots := 0, locals := 0 } : Room) s m #[(.int p1)] below meth c s₁ [] 0 0 := Stand.of_body Bd
  have e0 : s₁.heap = h0 := by rw [← hh, Bd.state]; rfl
  have N0 := Fr.nil n0
  show own_Go p e below s (own_rm_can_Q Z p1 h0 n0) ({ frames := 0, cells := 0, slots := 0, locals := 0 } : Room).cells ({ frames := 0, cells := 0, slots := 0, locals := 0 } : Room).slots (s₁.setTop (entryFrame m #[(.int p1)] 1))
  rw [own_rm_can_ef]
  show own_Go p e below s _ _ _ (s₁.setTop (mkF m 0 #[.val (.int p1)] []))
  refine own_st (fun _ k => XS.iloadN X0.here hx rfl (hb hby own_d_jdk_43_method_3_code_0) rfl k) ?_
  show own_Go p e below s _ _ _ (s₁.setTop (mkF m 1 #[.val (.int p1)] [(.int p1)]))
  refine own_st (fun _ k => XT.sipushV X0.here hx rfl (255 : Int32) (hb hby own_d_jdk_43_method_3_code_1) (by decide) k) ?_
  show own_Go p e below s _ _ _ (s₁.setTop (mkF m 4 #[.val (.int p1)] [(.int (255 : Int32)), (.int p1)]))
  by_cases hc2 : (255 : Int32) < p1
  · refine own_st (fun _ k => XS.icmpYes X0.here hx rfl (pc0 := 4) (pc' := 11) rfl (hb hby own_d_jdk_43_method_3_code_4) rfl (XT.ii_gt_t hc2) (by decide) (by decide) k) ?_
    show own_Go p e below s _ _ _ (s₁.setTop (mkF m 11 #[.val (.int p1)] []))
    refine own_st (fun _ k => XT.iconstV X0.here hx rfl (0 : Int32) (hb hby own_d_jdk_43_method_3_code_11) (by decide) k) ?_
    show own_Go p e below s _ _ _ (s₁.setTop (mkF m 12 #[.val (.int p1)] [(.int (0 : Int32))]))
    refine own_retN X0 hx hlk Bd.returns (t := .boolean) (z' := (0 : Int32)) (by simp) (by decide) (hb hby own_d_jdk_43_method_3_code_12) (by decide) (by decide) ?_
    rw [e0]
    exact ⟨N0, (by rw [if_pos hc2]), rfl⟩
  · refine own_st (fun _ k => XS.icmpNo X0.here hx rfl (hb hby own_d_jdk_43_method_3_code_4) rfl (XT.ii_gt_f hc2) k) ?_
    show own_Go p e below s _ _ _ (s₁.setTop (mkF m 7 #[.val (.int p1)] []))
    refine own_st (fun _ k => XT.iconstV X0.here hx rfl (1 : Int32) (hb hby own_d_jdk_43_method_3_code_7) (by decide) k) ?_
    show own_Go p e below s _ _ _ (s₁.setTop (mkF m 8 #[.val (.int p1)] [(.int (1 : Int32))]))
    refine own_st (fun _ k => XS.goto X0.here hx rfl (pc0 := 8) (pc' := 12) rfl (hb hby own_d_jdk_43_method_3_code_8) (by decide) (by decide) k) ?_
    show own_Go p e below s _ _ _ (s₁.setTop (mkF m 12 #[.val (.int p1)] [(.int (1 : Int32))]))
    refine own_retN X0 hx hlk Bd.returns (t := .boolean) (z' := (1 : Int32)) (by simp) (by decide) (hb hby own_d_jdk_43_method_3_code_12) (by decide) (by decide) ?_
    rw [e0]
    exact ⟨N0, (by rw [if_neg hc2]), rfl⟩
theorem own_d_jdk_43_method_46_code_0 : decode jdk_43_method_46_code 0 = .ok (.iconst 1, 1) := by decide +kernel
theorem own_d_jdk_43_method_46_code_1 : decode jdk_43_method_46_code 1 = .ok (.newarray .byte, 2) := by decide +kernel
theorem own_d_jdk_43_method_46_code_3 : decode jdk_43_method_46_code 3 = .ok (.dup, 1) := by decide +kernel
theorem own_d_jdk_43_method_46_code_4 : decode jdk_43_method_46_code 4 = .ok (.iconst 0, 1) := by decide +kernel
theorem own_d_jdk_43_method_46_code_5 : decode jdk_43_method_46_code 5 = .ok (.iload_n 0, 1) := by decide +kernel
theorem own_d_jdk_43_method_46_code_6 : decode jdk_43_method_46_code 6 = .ok (.i2b, 1) := by decide +kernel
theorem own_d_jdk_43_method_46_code_7 : decode jdk_43_method_46_code 7 = .ok (.bastore, 1) := by decide +kernel
theorem own_d_jdk_43_method_46_code_8 : decode jdk_43_method_46_code 8 = .ok (.areturn, 1) := by decide +kernel
theorem own_pn2 : plainFor (⟨"java/lang/StringLatin1", "toBytes", "(C)[B"⟩ : MethodName) = true := by decide +kernel
def own_rm_toBytes_Q (Z : State) (p1 : Int32) (h0 : Heap) (n0 : Nat) (v : Option Value) (h : Heap) (L : List Loc) : Prop := ∃ r : Addr, ∃ kk : ClassId, Fr n0 L ∧ v = some (.ref r) ∧ Keep h0 h [] ∧ h0.size ≤ r ∧ Exa Z h r "[B" ∧ Arv Z h r kk .byte (1 : Int32) [(.int (nar .byte (p1.toInt8.toInt32)))] (.int (0 : Int32))
theorem own_rm_toBytes_ef (m : MethodId) (p1 : Int32) : entryFrame m #[(.int p1)] 1 = mkF m 0 #[.val (.int p1)] [] := by first | (simp [entryFrame, mkF, argsToLocals, Value.category]; done) | rfl
set_option maxRecDepth 65536 in
set_option maxHeartbeats 40000000 in
theorem own_rm_toBytes (l : Launch) (Z : State) (a0 : Array Value) (hw : ∀ d ∈ tables_1, d.before a0 Z = true) (ws : List Jvm.Cond) (p1 : Int32) (h0 : Heap) (n0 : Nat) (Z0 : n0 ≤ h0.size)  :
    MetFree l (⟨"java/lang/StringLatin1", "toBytes", "(C)[B"⟩ : MethodName) (head1 (Jvm.Cond.code (⟨"java/lang/StringLatin1", "toBytes", "(C)[B"⟩ : MethodName) jdk_43_method_46_code 1 (some (.array .byte)) :: ws) ({ frames := 0, cells := 1, slots := 1, locals := 0 } : Room)) (fun a U => a = #[(.int p1)] ∧ Z.Warmed39 U.vm ∧ U.heap = h0) (fun _ _ _ _ _ => True) (fun _ U o U' => ∃ v L, o = .returned v ∧ own_rm_toBytes_Q Z p1 h0 n0 v U'.heap L ∧ FrameEnd U o U' L ({ frames := 0, cells := 1, slots := 1, locals := 0 } : Room).cells ({ frames := 0, cells := 1, slots := 1, locals := 0 } : Room).slots) := by
  refine MetFree.of_bodySF own_pn2 hisR ?_
  intro p e s m args below meth c s₁ Bd hml0 hP hK
  obtain ⟨rfl, hZ, hh⟩ := hP
  have hx := Bd.exec
  have hby := Bd.bytes
  have hml : c.maxLocals = 1 := hml0
  have hlk := BodyLoose.notSynchronized Bd
  have hown : s.vm.findClass "java/lang/StringLatin1" = some m.cls := findClass_of_methodNamed Bd.named
  have hnm := (name_of_methodNamed Bd.named Bd.method).1
  have X0 : Stand p l e ({ frames := 0, cells := 1, slots := 1, locals := 0 } : Room) s m #[(.int p1)] below meth c s₁ [] 0 0 := Stand.of_body Bd
  have e0 : s₁.heap = h0 := by rw [← hh, Bd.state]; rfl
  have N0 := Fr.nil n0
  have Kp0 : Keep h0 h0 [] := Keep.refl _ _
  show own_Go p e below s (own_rm_toBytes_Q Z p1 h0 n0) ({ frames := 0, cells := 1, slots := 1, locals := 0 } : Room).cells ({ frames := 0, cells := 1, slots := 1, locals := 0 } : Room).slots (s₁.setTop (entryFrame m #[(.int p1)] 1))
  rw [own_rm_toBytes_ef]
  show own_Go p e below s _ _ _ (s₁.setTop (mkF m 0 #[.val (.int p1)] []))
  refine own_st (fun _ k => XT.iconstV X0.here hx rfl (1 : Int32) (hb hby own_d_jdk_43_method_46_code_0) (by decide) k) ?_
  show own_Go p e below s _ _ _ (s₁.setTop (mkF m 1 #[.val (.int p1)] [(.int (1 : Int32))]))
  obtain ⟨T3, h3, k3, X3, e3, E3, A3, Ea3, st3⟩ := newPE X0 hx hZ (aty := .byte) (hw _ (List.mem_of_getElem? (i := 19) rfl)) e0 (g := (mkF m 1 #[.val (.int p1)] [(.int (1 : Int32))])) rfl (hb hby own_d_jdk_43_method_46_code_1) rfl (by decide) (cap := 1) (by decide) (by decide) (by decide) (by decide) (ad := "[B") (by decide +kernel)
  obtain ⟨b3, g3⟩ : ∃ z, z = h0.size := ⟨_, rfl⟩
  rw [← g3] at A3 Ea3 st3
  refine own_st st3 ?_
  have Zs4 : n0 ≤ h3.size := Nat.le_trans Z0 E3.1
  have Kp5 : Keep h0 h3 [] := Kp0.ext E3
  have g6 : n0 ≤ b3 := Nat.le_trans Z0 (Nat.le_of_eq g3.symm)
  have sz7 : h0.size ≤ b3 := Nat.le_trans Kp0.1 (Nat.le_of_eq g3.symm)
  have F8 : Arv Z h3 b3 k3 .byte (1 : Int32) [(.int (0 : Int32))] (.int (0 : Int32)) := (Arv.new A3 (by decide)).pad (fun i => own_pad 1 _ i)
  show own_Go p e below s _ _ _ (T3.setTop (mkF m 3 #[.val (.int p1)] [(.ref b3)]))
  refine own_st (fun _ k => XS.dup X3.here hx rfl (hb hby own_d_jdk_43_method_46_code_3) rfl rfl k) ?_
  show own_Go p e below s _ _ _ (T3.setTop (mkF m 4 #[.val (.int p1)] [(.ref b3), (.ref b3)]))
  refine own_st (fun _ k => XT.iconstV X3.here hx rfl (0 : Int32) (hb hby own_d_jdk_43_method_46_code_4) (by decide) k) ?_
  show own_Go p e below s _ _ _ (T3.setTop (mkF m 5 #[.val (.int p1)] [(.int (0 : Int32)), (.ref b3), (.ref b3)]))
  refine own_st (fun _ k => XS.iloadN X3.here hx rfl (hb hby own_d_jdk_43_method_46_code_5) rfl k) ?_
  show own_Go p e below s _ _ _ (T3.setTop (mkF m 6 #[.val (.int p1)] [(.int p1), (.int (0 : Int32)), (.ref b3), (.ref b3)]))
  refine own_st (fun _ k => XT.i2b X3.here hx rfl (hb hby own_d_jdk_43_method_46_code_6) rfl k) ?_
  show own_Go p e below s _ _ _ (T3.setTop (mkF m 7 #[.val (.int p1)] [(.int (p1.toInt8.toInt32)), (.int (0 : Int32)), (.ref b3), (.ref b3)]))
  obtain ⟨cl9, Ar9, kc9, S9, Nn9, H9, G9⟩ := id F8
  have hin9 : ¬ ((0 : Int32) < 0 ∨ cl9.slots.size ≤ ((0 : Int32) : Int32).toNatClampNeg) := inb_of S9 (by decide)
  obtain ⟨T9, h9, X9, e9, W9, st9⟩ := stB X3 hx hZ e3 Ar9 (j := (0 : Int32)) hin9 (g := (mkF m 7 #[.val (.int p1)] [(.int (p1.toInt8.toInt32)), (.int (0 : Int32)), (.ref b3), (.ref b3)])) rfl rfl (hb hby own_d_jdk_43_method_46_code_7)
  refine own_st st9 ?_
  have N10 := Fr.snoc X9 N0 g6
  have F11 : Arv Z h9 b3 k3 .byte (1 : Int32) [(.int (nar .byte (p1.toInt8.toInt32)))] (.int (0 : Int32)) := Arv.set Ar9 kc9 S9 Nn9 H9 G9 (fits_nar_byte _) W9 0 (by decide) (Nat.le_of_ble_eq_true rfl)
  have Zs12 : n0 ≤ h9.size := Nat.le_trans Zs4 (Nat.le_of_eq W9.size.symm)
  have Kp13 : Keep h0 h9 [] := Kp5.wr W9 (Or.inr sz7)
  show own_Go p e below s _ _ _ (T9.setTop (mkF m 8 #[.val (.int p1)] [(.ref b3)]))
  have F14 : Exa Z h9 b3 "[B" := (Ea3.wr W9)
  refine own_retA X9 hx hlk Bd.returns rfl (hb hby own_d_jdk_43_method_46_code_8) (by decide) (by decide) ?_
  rw [e9]
  exact ⟨b3, k3, N10, rfl, Kp13, sz7, F14, F11⟩
theorem own_d_jdk_42_method_151_code_0 : decode jdk_42_method_151_code 0 = .ok (.aload_n 0, 1) := by decide +kernel
theorem own_d_jdk_42_method_151_code_1 : decode jdk_42_method_151_code 1 = .ok (.invokespecial 1, 3) := by decide +kernel
theorem own_d_jdk_42_method_151_code_4 : decode jdk_42_method_151_code 4 = .ok (.aload_n 0, 1) := by decide +kernel
theorem own_d_jdk_42_method_151_code_5 : decode jdk_42_method_151_code 5 = .ok (.aload_n 1, 1) := by decide +kernel
theorem own_d_jdk_42_method_151_code_6 : decode jdk_42_method_151_code 6 = .ok (.putfield 9, 3) := by decide +kernel
theorem own_d_jdk_42_method_151_code_9 : decode jdk_42_method_151_code 9 = .ok (.aload_n 0, 1) := by decide +kernel
theorem own_d_jdk_42_method_151_code_10 : decode jdk_42_method_151_code 10 = .ok (.iload_n 2, 1) := by decide +kernel
theorem own_d_jdk_42_method_151_code_11 : decode jdk_42_method_151_code 11 = .ok (.putfield 15, 3) := by decide +kernel
theorem own_d_jdk_42_method_151_code_14 : decode jdk_42_method_151_code 14 = .ok (.return_, 1) := by decide +kernel
theorem own_pn3 : plainFor (⟨"java/lang/String", "<init>", "([BB)V"⟩ : MethodName) = true := by decide +kernel
def own_rm_sinit_Q (Z : State) (r : Addr) (q1 : Addr) (h0 : Heap) (n0 : Nat) (v : Option Value) (h : Heap) (L : List Loc) : Prop := Fr n0 L ∧ v = none ∧ Keep h0 h [r] ∧ Exa Z h r "java/lang/String" ∧ Fld Z h r "java/lang/String" "value" "[B" (.ref q1) ∧ Fld Z h r "java/lang/String" "coder" "B" (.int (0 : Int32))
theorem own_rm_sinit_ef (m : MethodId) (r : Addr) (q1 : Addr) : entryFrame m #[(.ref r), (.ref q1), (.int (0 : Int32))] 3 = mkF m 0 #[.val (.ref r), .val (.ref q1), .val (.int (0 : Int32))] [] := by first | (simp [entryFrame, mkF, argsToLocals, Value.category]; done) | rfl
set_option maxRecDepth 65536 in
set_option maxHeartbeats 40000000 in
theorem own_rm_sinit (l : Launch) (Z : State) (a0 : Array Value) (hw : ∀ d ∈ tables_1, d.before a0 Z = true) (ws : List Jvm.Cond) (r : Addr) (q1 : Addr) (h0 : Heap) (n0 : Nat) (Z0 : n0 ≤ h0.size) (E1 : Exa Z h0 r "java/lang/String") (F1 : Fld Z h0 r "java/lang/String" "value" "[B" .null) (F2 : Fld Z h0 r "java/lang/String" "coder" "B" (.int (0 : Int32))) (g1 : n0 ≤ r) :
    MetFree l (⟨"java/lang/String", "<init>", "([BB)V"⟩ : MethodName) (head1 (Jvm.Cond.code (⟨"java/lang/String", "<init>", "([BB)V"⟩ : MethodName) jdk_42_method_151_code 3 none :: ws) ({ frames := 1, cells := 0, slots := 0, locals := 12 } : Room)) (fun a U => a = #[(.ref r), (.ref q1), (.int (0 : Int32))] ∧ Z.Warmed39 U.vm ∧ U.heap = h0) (fun _ _ _ _ _ => True) (fun _ U o U' => ∃ v L, o = .returned v ∧ own_rm_sinit_Q Z r q1 h0 n0 v U'.heap L ∧ FrameEnd U o U' L ({ frames := 1, cells := 0, slots := 0, locals := 12 } : Room).cells ({ frames := 1, cells := 0, slots := 0, locals := 12 } : Room).slots) := by
  refine MetFree.of_bodySF own_pn3 hisR ?_
  intro p e s m args below meth c s₁ Bd hml0 hP hK
  obtain ⟨rfl, hZ, hh⟩ := hP
  have hx := Bd.exec
  have hby := Bd.bytes
  have hml : c.maxLocals = 3 := hml0
  have hlk := BodyLoose.notSynchronized Bd
  have hown : s.vm.findClass "java/lang/String" = some m.cls := findClass_of_methodNamed Bd.named
  have hnm := (name_of_methodNamed Bd.named Bd.method).1
  have X0 : Stand p l e ({ frames := 1, cells := 0, slots := 0, locals := 12 } : Room) s m #[(.ref r), (.ref q1), (.int (0 : Int32))] below meth c s₁ [] 0 0 := Stand.of_body Bd
  have e0 : s₁.heap = h0 := by rw [← hh, Bd.state]; rfl
  have N0 := Fr.nil n0
  have Kp0 : Keep h0 h0 [r] := Keep.refl _ _
  show own_Go p e below s (own_rm_sinit_Q Z r q1 h0 n0) ({ frames := 1, cells := 0, slots := 0, locals := 12 } : Room).cells ({ frames := 1, cells := 0, slots := 0, locals := 12 } : Room).slots (s₁.setTop (entryFrame m #[(.ref r), (.ref q1), (.int (0 : Int32))] 3))
  rw [own_rm_sinit_ef]
  show own_Go p e below s _ _ _ (s₁.setTop (mkF m 0 #[.val (.ref r), .val (.ref q1), .val (.int (0 : Int32))] []))
  refine own_st (fun _ k => XS.aloadN X0.here hx rfl (hb hby own_d_jdk_42_method_151_code_0) rfl rfl k) ?_
  show own_Go p e below s _ _ _ (s₁.setTop (mkF m 1 #[.val (.ref r), .val (.ref q1), .val (.int (0 : Int32))] [(.ref r)]))
  obtain ⟨T15, X15, e15, st15⟩ := initO X0 hx hZ hown (hw _ (List.mem_of_getElem? (i := 24) rfl)) (hw _ (List.mem_of_getElem? (i := 25) rfl)) (hw _ (List.mem_of_getElem? (i := 26) rfl)) e0 (g := (mkF m 1 #[.val (.ref r), .val (.ref q1), .val (.int (0 : Int32))] [(.ref r)])) rfl (by rw [hml]; rfl) rfl (hb hby own_d_jdk_42_method_151_code_1) (by decide) (W := 0) (by show 2 * 0 + _ ≤ _; exact Nat.le_of_eq rfl) (by decide)
  refine own_st st15 ?_
  show own_Go p e below s _ _ _ (T15.setTop (mkF m 4 #[.val (.ref r), .val (.ref q1), .val (.int (0 : Int32))] []))
  refine own_st (fun _ k => XS.aloadN X15.here hx rfl (hb hby own_d_jdk_42_method_151_code_4) rfl rfl k) ?_
  show own_Go p e below s _ _ _ (T15.setTop (mkF m 5 #[.val (.ref r), .val (.ref q1), .val (.int (0 : Int32))] [(.ref r)]))
  refine own_st (fun _ k => XS.aloadN X15.here hx rfl (hb hby own_d_jdk_42_method_151_code_5) rfl rfl k) ?_
  show own_Go p e below s _ _ _ (T15.setTop (mkF m 6 #[.val (.ref r), .val (.ref q1), .val (.int (0 : Int32))] [(.ref q1), (.ref r)]))
  obtain ⟨T16, h16, X16, e16, W16, st16⟩ := putF X15 hx hZ hown (host := "") (Or.inl (hw _ (List.mem_of_getElem? (i := 27) rfl))) Via.refl e15 F1 E1 (Or.inr ⟨(hw _ (List.mem_of_getElem? (i := 28) rfl)), rfl, hnm⟩) (hw _ (List.mem_of_getElem? (i := 15) rfl)) (ty := (.array .byte)) (by decide) rfl rfl (g := (mkF m 6 #[.val (.ref r), .val (.ref q1), .val (.int (0 : Int32))] [(.ref q1), (.ref r)])) rfl rfl (hb hby own_d_jdk_42_method_151_code_6)
  refine own_st st16 ?_
  have N17 := Fr.snoc X16 N0 g1
  have F18 : Fld Z h16 r "java/lang/String" "value" "[B" (.ref q1) := F1.same W16
  have Zs19 : n0 ≤ h16.size := Nat.le_trans Z0 (Nat.le_of_eq W16.size.symm)
  have Kp20 : Keep h0 h16 [r] := Kp0.wr W16 (Or.inl (List.mem_of_getElem? (i := 0) rfl))
  show own_Go p e below s _ _ _ (T16.setTop (mkF m 9 #[.val (.ref r), .val (.ref q1), .val (.int (0 : Int32))] []))
  refine own_st (fun _ k => XS.aloadN X16.here hx rfl (hb hby own_d_jdk_42_method_151_code_9) rfl rfl k) ?_
  show own_Go p e below s _ _ _ (T16.setTop (mkF m 10 #[.val (.ref r), .val (.ref q1), .val (.int (0 : Int32))] [(.ref r)]))
  refine own_st (fun _ k => XS.iloadN X16.here hx rfl (hb hby own_d_jdk_42_method_151_code_10) rfl k) ?_
  show own_Go p e below s _ _ _ (T16.setTop (mkF m 11 #[.val (.ref r), .val (.ref q1), .val (.int (0 : Int32))] [(.int (0 : Int32)), (.ref r)]))
  have F21 : Fld Z h16 r "java/lang/String" "coder" "B" (.int (0 : Int32)) := (F2.other W16 (Or.inr (slot_ne (Or.inr (hw _ (List.mem_of_getElem? (i := 30) rfl))) (Or.inr (hw _ (List.mem_of_getElem? (i := 28) rfl))) (by decide) (t := .byte) (t' := (.array .byte)) (by decide) (by decide))))
  have F22 : Exa Z h16 r "java/lang/String" := (E1.wr W16)
  obtain ⟨T23, h23, X23, e23, W23, st23⟩ := putFN X16 hx hZ hown (hw _ (List.mem_of_getElem? (i := 29) rfl)) Via.refl e16 F21 F22 (Or.inr ⟨(hw _ (List.mem_of_getElem? (i := 30) rfl)), rfl, hnm⟩) (hw _ (List.mem_of_getElem? (i := 15) rfl)) (ty := .byte) (v' := (.int (0 : Int32))) (by decide) (by decide) (by decide) (g := (mkF m 11 #[.val (.ref r), .val (.ref q1), .val (.int (0 : Int32))] [(.int (0 : Int32)), (.ref r)])) rfl rfl (hb hby own_d_jdk_42_method_151_code_11)
  refine own_st st23 ?_
  have N24 := Fr.snoc X23 N17 g1
  have F25 : Fld Z h23 r "java/lang/String" "coder" "B" (.int (0 : Int32)) := F21.same W23
  have Zs26 : n0 ≤ h23.size := Nat.le_trans Zs19 (Nat.le_of_eq W23.size.symm)
  have Kp27 : Keep h0 h23 [r] := Kp20.wr W23 (Or.inl (List.mem_of_getElem? (i := 0) rfl))
  show own_Go p e below s _ _ _ (T23.setTop (mkF m 14 #[.val (.ref r), .val (.ref q1), .val (.int (0 : Int32))] []))
  have F28 : Exa Z h23 r "java/lang/String" := (F22.wr W23)
  have F29 : Fld Z h23 r "java/lang/String" "value" "[B" (.ref q1) := (F18.other W23 (Or.inr (slot_ne (Or.inr (hw _ (List.mem_of_getElem? (i := 28) rfl))) (Or.inr (hw _ (List.mem_of_getElem? (i := 30) rfl))) (by decide) (t := (.array .byte)) (t' := .byte) (by decide) (by decide))))
  refine own_ret0 X23 hx hlk Bd.returns (hb hby own_d_jdk_42_method_151_code_14) (by decide) (by decide) ?_
  rw [e23]
  exact ⟨N24, rfl, Kp27, F28, F29, F25⟩
theorem own_d_jdk_42_method_139_code_0 : decode jdk_42_method_139_code 0 = .ok (.getstatic 38, 3) := by decide +kernel
theorem own_d_jdk_42_method_139_code_3 : decode jdk_42_method_139_code 3 = .ok (.ifCond .eq 23, 3) := by decide +kernel
theorem own_d_jdk_42_method_139_code_6 : decode jdk_42_method_139_code 6 = .ok (.iload_n 0, 1) := by decide +kernel
theorem own_d_jdk_42_method_139_code_7 : decode jdk_42_method_139_code 7 = .ok (.invokestatic 1015, 3) := by decide +kernel
theorem own_d_jdk_42_method_139_code_10 : decode jdk_42_method_139_code 10 = .ok (.ifCond .eq 16, 3) := by decide +kernel
theorem own_d_jdk_42_method_139_code_13 : decode jdk_42_method_139_code 13 = .ok (.new 10, 3) := by decide +kernel
theorem own_d_jdk_42_method_139_code_16 : decode jdk_42_method_139_code 16 = .ok (.dup, 1) := by decide +kernel
theorem own_d_jdk_42_method_139_code_17 : decode jdk_42_method_139_code 17 = .ok (.iload_n 0, 1) := by decide +kernel
theorem own_d_jdk_42_method_139_code_18 : decode jdk_42_method_139_code 18 = .ok (.invokestatic 1018, 3) := by decide +kernel
theorem own_d_jdk_42_method_139_code_21 : decode jdk_42_method_139_code 21 = .ok (.iconst 0, 1) := by decide +kernel
theorem own_d_jdk_42_method_139_code_22 : decode jdk_42_method_139_code 22 = .ok (.invokespecial 209, 3) := by decide +kernel
theorem own_d_jdk_42_method_139_code_25 : decode jdk_42_method_139_code 25 = .ok (.areturn, 1) := by decide +kernel
theorem own_d_jdk_42_method_139_code_26 : decode jdk_42_method_139_code 26 = .ok (.new 10, 3) := by decide +kernel
theorem own_d_jdk_42_method_139_code_29 : decode jdk_42_method_139_code 29 = .ok (.dup, 1) := by decide +kernel
theorem own_d_jdk_42_method_139_code_30 : decode jdk_42_method_139_code 30 = .ok (.iload_n 0, 1) := by decide +kernel
theorem own_d_jdk_42_method_139_code_31 : decode jdk_42_method_139_code 31 = .ok (.invokestatic 1021, 3) := by decide +kernel
theorem own_d_jdk_42_method_139_code_34 : decode jdk_42_method_139_code 34 = .ok (.iconst 1, 1) := by decide +kernel
theorem own_d_jdk_42_method_139_code_35 : decode jdk_42_method_139_code 35 = .ok (.invokespecial 209, 3) := by decide +kernel
theorem own_d_jdk_42_method_139_code_38 : decode jdk_42_method_139_code 38 = .ok (.areturn, 1) := by decide +kernel
theorem own_pn4 : plainFor (⟨"java/lang/String", "valueOf", "(C)Ljava/lang/String;"⟩ : MethodName) = true := by decide +kernel
theorem own_pd0 : parseMethodDescriptor "(C)Z" = some ⟨[.char], some .boolean⟩ := by decide +kernel
theorem own_pd1 : parseMethodDescriptor "(C)[B" = some ⟨[.char], some (.array .byte)⟩ := by decide +kernel
theorem own_pd2 : parseMethodDescriptor "([BB)V" = some ⟨[(.array .byte), .byte], none⟩ := by decide +kernel
def own_rm_valueOf_Q (Z : State) (p1 : Int32) (a_cs : Int32) (h0 : Heap) (n0 : Nat) (v : Option Value) (h : Heap) (L : List Loc) : Prop := ∃ r : Addr, ∃ b : Addr, ∃ kk : ClassId, Fr n0 L ∧ v = some (.ref r) ∧ Keep h0 h [] ∧ h0.size ≤ r ∧ h0.size ≤ b ∧ Exa Z h r "java/lang/String" ∧ Fld Z h r "java/lang/String" "value" "[B" (.ref b) ∧ Fld Z h r "java/lang/String" "coder" "B" (.int (0 : Int32)) ∧ Exa Z h b "[B" ∧ Arv Z h b kk .byte (1 : Int32) [(.int (nar .byte (p1.toInt8.toInt32)))] (.int (0 : Int32))
theorem own_rm_valueOf_ef (m : MethodId) (p1 : Int32) : entryFrame m #[(.int p1)] 1 = mkF m 0 #[.val (.int p1)] [] := by first | (simp [entryFrame, mkF, argsToLocals, Value.category]; done) | rfl
set_option maxRecDepth 65536 in
set_option maxHeartbeats 40000000 in
theorem own_rm_valueOf (l : Launch) (Z : State) (a0 : Array Value) (hw : ∀ d ∈ tables_1, d.before a0 Z = true) (ws : List Jvm.Cond) (p1 : Int32) (a_cs : Int32) (h0 : Heap) (n0 : Nat) (Z0 : n0 ≤ h0.size) (O0 : Old Z n0 h0) (S_cs : Sta Z Z.heap "java/lang/String" "COMPACT_STRINGS" "Z" (.int a_cs)) (h_cs : ¬ a_cs = 0) (hle : ¬ (255 : Int32) < p1) :
    MetFree l (⟨"java/lang/String", "valueOf", "(C)Ljava/lang/String;"⟩ : MethodName) (head1 (Jvm.Cond.code (⟨"java/lang/String", "valueOf", "(C)Ljava/lang/String;"⟩ : MethodName) jdk_42_method_139_code 1 (some (.object "java/lang/String")) :: ws) ({ frames := 2, cells := 2, slots := 5, locals := 27 } : Room)) (fun a U => a = #[(.int p1)] ∧ Z.Warmed39 U.vm ∧ U.heap = h0) (fun _ _ _ _ _ => True) (fun _ U o U' => ∃ v L, o = .returned v ∧ own_rm_valueOf_Q Z p1 a_cs h0 n0 v U'.heap L ∧ FrameEnd U o U' L ({ frames := 2, cells := 2, slots := 5, locals := 27 } : Room).cells ({ frames := 2, cells := 2, slots := 5, locals := 27 } : Room).slots) := by
  refine MetFree.of_bodySF own_pn4 hisR ?_
  intro p e s m args below meth c s₁ Bd hml0 hP hK
  obtain ⟨rfl, hZ, hh⟩ := hP
  have hx := Bd.exec
  have hby := Bd.bytes
  have hml : c.maxLocals = 1 := hml0
  have hlk := BodyLoose.notSynchronized Bd
  have hown : s.vm.findClass "java/lang/String" = some m.cls := findClass_of_methodNamed Bd.named
  have hnm := (name_of_methodNamed Bd.named Bd.method).1
  have X0 : Stand p l e ({ frames := 2, cells := 2, slots := 5, locals := 27 } : Room) s m #[(.int p1)] below meth c s₁ [] 0 0 := Stand.of_body Bd
  have e0 : s₁.heap = h0 := by rw [← hh, Bd.state]; rfl
  have N0 := Fr.nil n0
  have Kp0 : Keep h0 h0 [] := Keep.refl _ _
  show own_Go p e below s (own_rm_valueOf_Q Z p1 a_cs h0 n0) ({ frames := 2, cells := 2, slots := 5, locals := 27 } : Room).cells ({ frames := 2, cells := 2, slots := 5, locals := 27 } : Room).slots (s₁.setTop (entryFrame m #[(.int p1)] 1))
  rw [own_rm_valueOf_ef]
  show own_Go p e below s _ _ _ (s₁.setTop (mkF m 0 #[.val (.int p1)] []))
  have F30 : Sta Z h0 "java/lang/String" "COMPACT_STRINGS" "Z" (.int a_cs) := S_cs.ext O0.2
  obtain ⟨T31, X31, e31, st31⟩ := getS2 X0 hx hZ hown (host := "") (Or.inl (hw _ (List.mem_of_getElem? (i := 9) rfl))) Via.refl e0 F30 (g := (mkF m 0 #[.val (.int p1)] [])) rfl (hb hby own_d_jdk_42_method_139_code_0)
  refine own_st st31 ?_
  show own_Go p e below s _ _ _ (T31.setTop (mkF m 3 #[.val (.int p1)] [(.int a_cs)]))
  refine own_st (fun _ k => XS.ifNo X31.here hx rfl (hb hby own_d_jdk_42_method_139_code_3) rfl (XT.i0_eq_f h_cs) k) ?_
  show own_Go p e below s _ _ _ (T31.setTop (mkF m 6 #[.val (.int p1)] []))
  refine own_st (fun _ k => XS.iloadN X31.here hx rfl (hb hby own_d_jdk_42_method_139_code_6) rfl k) ?_
  show own_Go p e below s _ _ _ (T31.setTop (mkF m 7 #[.val (.int p1)] [(.int p1)]))
  obtain ⟨_, _, ⟨T32, L32, k32, n32⟩, -, X32, ⟨Lc32, hQ32, l32, y32, z32⟩, st32⟩ := Jvm.LawKit.callS X31 hx (y := (⟨"java/lang/StringLatin1", "canEncode", "(C)Z"⟩ : MethodName)) hown (mvT hZ (hw _ (List.mem_of_getElem? (i := 10) rfl))) (mvT hZ (hw _ (List.mem_of_getElem? (i := 11) rfl))) (mvT hZ (hw _ (List.mem_of_getElem? (i := 12) rfl))) (mvT hZ (hw _ (List.mem_of_getElem? (i := 13) rfl))) (by decide) (backOf (W := 0) (own_rm_can l Z a0 hw [] p1 h0 n0 Z0 ) hZ (hw _ (List.mem_of_getElem? (i := 13) rfl)) (hw _ (List.mem_of_getElem? (i := 12) rfl)) (by decide) (by decide)) (g := (mkF m 7 #[.val (.int p1)] [(.int p1)])) rfl (by rw [hml]; rfl) (argsL := [(.int p1)]) (rest := []) (lenOf own_pd0 rfl) rfl (by show 2 * 0 + _ ≤ _; exact Nat.le_of_eq rfl) (hb hby own_d_jdk_42_method_139_code_7) (fun _ _ => ⟨rfl, e31, (by decide : 0 + 0 ≤ _), (by decide : 0 + 0 ≤ _)⟩)
  dsimp only [Pt.U, Pt.locs, Pt.cells, Pt.slots] at X32 l32 y32 z32 st32 hQ32
  subst l32 y32 z32
  obtain ⟨N32q, rfl, eh32⟩ := hQ32
  have N33 := Fr.app N0 N32q
  refine own_st st32 ?_
  show own_Go p e below s _ _ _ (T32.setTop (mkF m 10 #[.val (.int p1)] [(.int (if (255 : Int32) < p1 then (0 : Int32) else 1))]))
  refine own_st (fun _ k => XS.ifNo X32.here hx rfl (hb hby own_d_jdk_42_method_139_code_10) rfl (XT.i0_eq_f (by simp [hle])) k) ?_
  show own_Go p e below s _ _ _ (T32.setTop (mkF m 13 #[.val (.int p1)] []))
  obtain ⟨T34, h34, X34, e34, E34, A34, D34, -, st34⟩ := newO X32 hx hZ hown (hw _ (List.mem_of_getElem? (i := 14) rfl)) (hw _ (List.mem_of_getElem? (i := 15) rfl)) (hw _ (List.mem_of_getElem? (i := 7) rfl)) eh32 (g := (mkF m 13 #[.val (.int p1)] [])) rfl (hb hby own_d_jdk_42_method_139_code_13) (by decide) (by decide)
  obtain ⟨b34, g34⟩ : ∃ z, z = h0.size := ⟨_, rfl⟩
  rw [← g34] at A34 D34 st34
  refine own_st st34 ?_
  have Zs35 : n0 ≤ h34.size := Nat.le_trans Z0 E34.1
  have Kp36 : Keep h0 h34 [] := Kp0.ext E34
  have g37 : n0 ≤ b34 := Nat.le_trans Z0 (Nat.le_of_eq g34.symm)
  have sz38 : h0.size ≤ b34 := Nat.le_trans Kp0.1 (Nat.le_of_eq g34.symm)
  have F39 : Fld Z h34 b34 "java/lang/String" "value" "[B" .null := D34 (Or.inr (hw _ (List.mem_of_getElem? (i := 28) rfl))) (ty := (.array .byte)) (by decide)
  have F40 : Fld Z h34 b34 "java/lang/String" "coder" "B" (.int (0 : Int32)) := D34 (Or.inr (hw _ (List.mem_of_getElem? (i := 30) rfl))) (ty := .byte) (by decide)
  show own_Go p e below s _ _ _ (T34.setTop (mkF m 16 #[.val (.int p1)] [(.ref b34)]))
  refine own_st (fun _ k => XS.dup X34.here hx rfl (hb hby own_d_jdk_42_method_139_code_16) rfl rfl k) ?_
  show own_Go p e below s _ _ _ (T34.setTop (mkF m 17 #[.val (.int p1)] [(.ref b34), (.ref b34)]))
  refine own_st (fun _ k => XS.iloadN X34.here hx rfl (hb hby own_d_jdk_42_method_139_code_17) rfl k) ?_
  show own_Go p e below s _ _ _ (T34.setTop (mkF m 18 #[.val (.int p1)] [(.int p1), (.ref b34), (.ref b34)]))
  obtain ⟨_, _, ⟨T41, L41, k41, n41⟩, -, X41, ⟨Lc41, hQ41, l41, y41, z41⟩, st41⟩ := Jvm.LawKit.callS X34 hx (y := (⟨"java/lang/StringLatin1", "toBytes", "(C)[B"⟩ : MethodName)) hown (mvT hZ (hw _ (List.mem_of_getElem? (i := 16) rfl))) (mvT hZ (hw _ (List.mem_of_getElem? (i := 17) rfl))) (mvT hZ (hw _ (List.mem_of_getElem? (i := 12) rfl))) (mvT hZ (hw _ (List.mem_of_getElem? (i := 18) rfl))) (by decide) (backOf (W := 2) (own_rm_toBytes l Z a0 hw [] p1 h34 n0 Zs35 ) hZ (hw _ (List.mem_of_getElem? (i := 18) rfl)) (hw _ (List.mem_of_getElem? (i := 12) rfl)) (by decide) (by decide)) (g := (mkF m 18 #[.val (.int p1)] [(.int p1), (.ref b34), (.ref b34)])) rfl (by rw [hml]; rfl) (argsL := [(.int p1)]) (rest := [(.ref b34), (.ref b34)]) (lenOf own_pd1 rfl) rfl (by show 2 * 0 + _ ≤ _; exact Nat.le_of_eq rfl) (hb hby own_d_jdk_42_method_139_code_18) (fun _ _ => ⟨rfl, e34, (by decide : 1 + 1 ≤ _), (by decide : 4 + 1 ≤ _)⟩)
  dsimp only [Pt.U, Pt.locs, Pt.cells, Pt.slots] at X41 l41 y41 z41 st41 hQ41
  subst l41 y41 z41
  obtain ⟨x42, x43, N41q, rfl, K41, q44, q45, q46⟩ := hQ41
  have N47 := Fr.app N33 N41q
  refine own_st st41 ?_
  have Zs48 : n0 ≤ T41.heap.size := Nat.le_trans Zs35 K41.1
  have Kp49 : Keep h0 T41.heap [] := Kp36.trans K41 all0
  have g50 : n0 ≤ x42 := Nat.le_trans Zs35 q44
  have sz51 : h0.size ≤ x42 := Nat.le_trans Kp36.1 q44
  show own_Go p e below s _ _ _ (T41.setTop (mkF m 21 #[.val (.int p1)] [(.ref x42), (.ref b34), (.ref b34)]))
  refine own_st (fun _ k => XT.iconstV X41.here hx rfl (0 : Int32) (hb hby own_d_jdk_42_method_139_code_21) (by decide) k) ?_
  show own_Go p e below s _ _ _ (T41.setTop (mkF m 22 #[.val (.int p1)] [(.int (0 : Int32)), (.ref x42), (.ref b34), (.ref b34)]))
  have F53 : Exa Z T41.heap b34 "java/lang/String" := (A34.keep K41)
  have F54 : Fld Z T41.heap b34 "java/lang/String" "value" "[B" .null := (F39.keep K41 nin0)
  have F55 : Fld Z T41.heap b34 "java/lang/String" "coder" "B" (.int (0 : Int32)) := (F40.keep K41 nin0)
  obtain ⟨_, _, ⟨T52, L52, k52, n52⟩, -, X52, ⟨Lc52, hQ52, l52, y52, z52⟩, st52⟩ := X41.specialBack hx (y := (⟨"java/lang/String", "<init>", "([BB)V"⟩ : MethodName)) rfl hown (mvT hZ (hw _ (List.mem_of_getElem? (i := 20) rfl))) (mvT hZ (hw _ (List.mem_of_getElem? (i := 21) rfl))) (mvT hZ (hw _ (List.mem_of_getElem? (i := 23) rfl))) (by decide) (backOf (W := 1) (own_rm_sinit l Z a0 hw [] b34 x42 T41.heap n0 Zs48 F53 F54 F55 g37) hZ (hw _ (List.mem_of_getElem? (i := 23) rfl)) (hw _ (List.mem_of_getElem? (i := 7) rfl)) (by decide) (by decide)) (g := (mkF m 22 #[.val (.int p1)] [(.int (0 : Int32)), (.ref x42), (.ref b34), (.ref b34)])) rfl (by rw [hml]; rfl) (Steps.refl _) (a := b34) (argsL := [(.ref x42), (.int (0 : Int32))]) (rest := [(.ref b34)]) (lenOf own_pd2 rfl) rfl (by show 2 * 0 + _ ≤ _; exact Nat.le_of_eq rfl) (hb hby own_d_jdk_42_method_139_code_22) (fun _ _ => ⟨rfl, rfl, (by decide : 2 + 0 ≤ _), (by decide : 5 + 0 ≤ _)⟩)
  dsimp only [Pt.U, Pt.locs, Pt.cells, Pt.slots] at X52 l52 y52 z52 st52 hQ52
  subst l52 y52 z52
  obtain ⟨N52q, rfl, K52, q56, q57, q58⟩ := hQ52
  have N59 := Fr.app N47 N52q
  refine own_tr st52 ?_
  have Zs60 : n0 ≤ T52.heap.size := Nat.le_trans Zs48 K52.1
  have Kp61 : Keep h0 T52.heap [] := Kp49.trans K52 (allS (Or.inr sz38) all0)
  show own_Go p e below s _ _ _ (T52.setTop (mkF m 25 #[.val (.int p1)] [(.ref b34)]))
  have ne62 : b34 ≠ x42 := Nat.ne_of_lt (Nat.lt_of_lt_of_le A34.lt q44)
  have F63 : Arv Z T52.heap x42 x43 .byte (1 : Int32) [(.int (nar .byte (p1.toInt8.toInt32)))] (.int (0 : Int32)) := (q46.keep K52 (ninS ne62.symm nin0))
  have F64 : Exa Z T52.heap x42 "[B" := (q45.keep K52)
  refine own_retA X52 hx hlk Bd.returns rfl (hb hby own_d_jdk_42_method_139_code_25) (by decide) (by decide) ?_
  skip
  exact ⟨b34, x42, x43, N59, rfl, Kp61, sz38, sz51, q56, q57, q58, F64, F63⟩
theorem own_d_jdk_42_method_55_code_0 : decode jdk_42_method_55_code 0 = .ok (.aload_n 0, 1) := by decide +kernel
theorem own_d_jdk_42_method_55_code_1 : decode jdk_42_method_55_code 1 = .ok (.getfield 9, 3) := by decide +kernel
theorem own_d_jdk_42_method_55_code_4 : decode jdk_42_method_55_code 4 = .ok (.arraylength, 1) := by decide +kernel
theorem own_d_jdk_42_method_55_code_5 : decode jdk_42_method_55_code 5 = .ok (.ifCond .ne 7, 3) := by decide +kernel
theorem own_d_jdk_42_method_55_code_8 : decode jdk_42_method_55_code 8 = .ok (.iconst 1, 1) := by decide +kernel
theorem own_d_jdk_42_method_55_code_9 : decode jdk_42_method_55_code 9 = .ok (.goto 4, 3) := by decide +kernel
theorem own_d_jdk_42_method_55_code_12 : decode jdk_42_method_55_code 12 = .ok (.iconst 0, 1) := by decide +kernel
theorem own_d_jdk_42_method_55_code_13 : decode jdk_42_method_55_code 13 = .ok (.ireturn, 1) := by decide +kernel
theorem own_pn5 : plainFor (⟨"java/lang/String", "isEmpty", "()Z"⟩ : MethodName) = true := by decide +kernel
def own_rm_isEmpty_Q (Z : State) (r : Addr) (b : Addr) (kk : ClassId) (x : Int32) (h0 : Heap) (n0 : Nat) (v : Option Value) (h : Heap) (L : List Loc) : Prop := Fr n0 L ∧ v = some (.int (0 : Int32)) ∧ h = h0
theorem own_rm_isEmpty_ef (m : MethodId) (r : Addr) : entryFrame m #[(.ref r)] 1 = mkF m 0 #[.val (.ref r)] [] := by first | (simp [entryFrame, mkF, argsToLocals, Value.category]; done) | rfl
set_option maxRecDepth 65536 in
set_option maxHeartbeats 40000000 in
theorem own_rm_isEmpty (l : Launch) (Z : State) (a0 : Array Value) (hw : ∀ d ∈ tables_1, d.before a0 Z = true) (ws : List Jvm.Cond) (r : Addr) (b : Addr) (kk : ClassId) (x : Int32) (h0 : Heap) (n0 : Nat) (Z0 : n0 ≤ h0.size) (F1 : Fld Z h0 r "java/lang/String" "value" "[B" (.ref b)) (V1 : Arv Z h0 b kk .byte (1 : Int32) [(.int x)] (.int (0 : Int32))) :
    MetFree l (⟨"java/lang/String", "isEmpty", "()Z"⟩ : MethodName) (head1 (Jvm.Cond.code (⟨"java/lang/String", "isEmpty", "()Z"⟩ : MethodName) jdk_42_method_55_code 1 (some .boolean) :: ws) ({ frames := 0, cells := 0, slots := 0, locals := 0 } : Room)) (fun a U => a = #[(.ref r)] ∧ Z.Warmed39 U.vm ∧ U.heap = h0) (fun _ _ _ _ _ => True) (fun _ U o U' => ∃ v L, o = .returned v ∧ own_rm_isEmpty_Q Z r b kk x h0 n0 v U'.heap L ∧ FrameEnd U o U' L ({ frames := 0, cells := 0, slots := 0, locals := 0 } : Room).cells ({ frames := 0, cells := 0, slots := 0, locals := 0 } : Room).slots) := by
  refine MetFree.of_bodySF own_pn5 hisR ?_
  intro p e s m args below meth c s₁ Bd hml0 hP hK
  obtain ⟨rfl, hZ, hh⟩ := hP
  have hx := Bd.exec
  have hby := Bd.bytes
  have hml : c.maxLocals = 1 := hml0
  have hlk := BodyLoose.notSynchronized Bd
  have hown : s.vm.findClass "java/lang/String" = some m.cls := findClass_of_methodNamed Bd.named
  have hnm := (name_of_methodNamed Bd.named Bd.method).1
  have X0 : Stand p l e ({ frames := 0, cells := 0, slots := 0, locals := 0 } : Room) s m #[(.ref r)] below meth c s₁ [] 0 0 := Stand.of_body Bd
  have e0 : s₁.heap = h0 := by rw [← hh, Bd.state]; rfl
  have N0 := Fr.nil n0
  show own_Go p e below s (own_rm_isEmpty_Q Z r b kk x h0 n0) ({ frames := 0, cells := 0, slots := 0, locals := 0 } : Room).cells ({ frames := 0, cells := 0, slots := 0, locals := 0 } : Room).slots (s₁.setTop (entryFrame m #[(.ref r)] 1))
  rw [own_rm_isEmpty_ef]
  show own_Go p e below s _ _ _ (s₁.setTop (mkF m 0 #[.val (.ref r)] []))
  refine own_st (fun _ k => XS.aloadN X0.here hx rfl (hb hby own_d_jdk_42_method_55_code_0) rfl rfl k) ?_
  show own_Go p e below s _ _ _ (s₁.setTop (mkF m 1 #[.val (.ref r)] [(.ref r)]))
  obtain ⟨T65, X65, e65, st65⟩ := getF X0 hx hZ hown (host := "") (Or.inl (hw _ (List.mem_of_getElem? (i := 27) rfl))) Via.refl e0 F1 (g := (mkF m 1 #[.val (.ref r)] [(.ref r)])) rfl rfl (hb hby own_d_jdk_42_method_55_code_1)
  refine own_st st65 ?_
  show own_Go p e below s _ _ _ (T65.setTop (mkF m 4 #[.val (.ref r)] [(.ref b)]))
  obtain ⟨cl66, Ar66, -, S66, N66, -, -⟩ := id V1
  refine own_st (fun _ k => X65.arraylength hx (own_hp e65 Ar66.1) (State.isArrayOf_alike hZ.alike Ar66.2.1) (g := (mkF m 4 #[.val (.ref r)] [(.ref b)])) rfl rfl (hb hby own_d_jdk_42_method_55_code_4) _ k) ?_
  rw [len_of S66 N66]
  show own_Go p e below s _ _ _ (T65.setTop (mkF m 5 #[.val (.ref r)] [(.int (1 : Int32))]))
  refine own_st (fun _ k => XS.ifYes X65.here hx rfl (pc0 := 5) (pc' := 12) rfl (hb hby own_d_jdk_42_method_55_code_5) rfl (XT.i0_ne_t (by decide)) (by decide) (by decide) k) ?_
  show own_Go p e below s _ _ _ (T65.setTop (mkF m 12 #[.val (.ref r)] []))
  refine own_st (fun _ k => XT.iconstV X65.here hx rfl (0 : Int32) (hb hby own_d_jdk_42_method_55_code_12) (by decide) k) ?_
  show own_Go p e below s _ _ _ (T65.setTop (mkF m 13 #[.val (.ref r)] [(.int (0 : Int32))]))
  refine own_retN X65 hx hlk Bd.returns (t := .boolean) (z' := (0 : Int32)) (by simp) (by decide) (hb hby own_d_jdk_42_method_55_code_13) (by decide) (by decide) ?_
  rw [e65]
  exact ⟨N0, rfl, rfl⟩
theorem own_d_jdk_42_method_152_code_0 : decode jdk_42_method_152_code 0 = .ok (.getstatic 38, 3) := by decide +kernel
theorem own_d_jdk_42_method_152_code_3 : decode jdk_42_method_152_code 3 = .ok (.ifCond .eq 10, 3) := by decide +kernel
theorem own_d_jdk_42_method_152_code_6 : decode jdk_42_method_152_code 6 = .ok (.aload_n 0, 1) := by decide +kernel
theorem own_d_jdk_42_method_152_code_7 : decode jdk_42_method_152_code 7 = .ok (.getfield 15, 3) := by decide +kernel
theorem own_d_jdk_42_method_152_code_10 : decode jdk_42_method_152_code 10 = .ok (.goto 4, 3) := by decide +kernel
theorem own_d_jdk_42_method_152_code_13 : decode jdk_42_method_152_code 13 = .ok (.iconst 1, 1) := by decide +kernel
theorem own_d_jdk_42_method_152_code_14 : decode jdk_42_method_152_code 14 = .ok (.ireturn, 1) := by decide +kernel
theorem own_pn6 : plainFor (⟨"java/lang/String", "coder", "()B"⟩ : MethodName) = true := by decide +kernel
def own_rm_coder_Q (Z : State) (r : Addr) (a_cs : Int32) (h0 : Heap) (n0 : Nat) (v : Option Value) (h : Heap) (L : List Loc) : Prop := Fr n0 L ∧ v = some (.int (0 : Int32)) ∧ h = h0
theorem own_rm_coder_ef (m : MethodId) (r : Addr) : entryFrame m #[(.ref r)] 1 = mkF m 0 #[.val (.ref r)] [] := by first | (simp [entryFrame, mkF, argsToLocals, Value.category]; done) | rfl
set_option maxRecDepth 65536 in
set_option maxHeartbeats 40000000 in
theorem own_rm_coder (l : Launch) (Z : State) (a0 : Array Value) (hw : ∀ d ∈ tables_1, d.before a0 Z = true) (ws : List Jvm.Cond) (r : Addr) (a_cs : Int32) (h0 : Heap) (n0 : Nat) (Z0 : n0 ≤ h0.size) (O0 : Old Z n0 h0) (S_cs : Sta Z Z.heap "java/lang/String" "COMPACT_STRINGS" "Z" (.int a_cs)) (h_cs : ¬ a_cs = 0) (F1 : Fld Z h0 r "java/lang/String" "coder" "B" (.int (0 : Int32))) :
    MetFree l (⟨"java/lang/String", "coder", "()B"⟩ : MethodName) (head1 (Jvm.Cond.code (⟨"java/lang/String", "coder", "()B"⟩ : MethodName) jdk_42_method_152_code 1 (some .byte) :: ws) ({ frames := 0, cells := 0, slots := 0, locals := 0 } : Room)) (fun a U => a = #[(.ref r)] ∧ Z.Warmed39 U.vm ∧ U.heap = h0) (fun _ _ _ _ _ => True) (fun _ U o U' => ∃ v L, o = .returned v ∧ own_rm_coder_Q Z r a_cs h0 n0 v U'.heap L ∧ FrameEnd U o U' L ({ frames := 0, cells := 0, slots := 0, locals := 0 } : Room).cells ({ frames := 0, cells := 0, slots := 0, locals := 0 } : Room).slots) := by
  refine MetFree.of_bodySF own_pn6 hisR ?_
  intro p e s m args below meth c s₁ Bd hml0 hP hK
  obtain ⟨rfl, hZ, hh⟩ := hP
  have hx := Bd.exec
  have hby := Bd.bytes
  have hml : c.maxLocals = 1 := hml0
  have hlk := BodyLoose.notSynchronized Bd
  have hown : s.vm.findClass "java/lang/String" = some m.cls := findClass_of_methodNamed Bd.named
  have hnm := (name_of_methodNamed Bd.named Bd.method).1
  have X0 : Stand p l e ({ frames := 0, cells := 0, slots := 0, locals := 0 } : Room) s m #[(.ref r)] below meth c s₁ [] 0 0 := Stand.of_body Bd
  have e0 : s₁.heap = h0 := by rw [← hh, Bd.state]; rfl
  have N0 := Fr.nil n0
  show own_Go p e below s (own_rm_coder_Q Z r a_cs h0 n0) ({ frames := 0, cells := 0, slots := 0, locals := 0 } : Room).cells ({ frames := 0, cells := 0, slots := 0, locals := 0 } : Room).slots (s₁.setTop (entryFrame m #[(.ref r)] 1))
  rw [own_rm_coder_ef]
  show own_Go p e below s _ _ _ (s₁.setTop (mkF m 0 #[.val (.ref r)] []))
  have F67 : Sta Z h0 "java/lang/String" "COMPACT_STRINGS" "Z" (.int a_cs) := S_cs.ext O0.2
  obtain ⟨T68, X68, e68, st68⟩ := getS2 X0 hx hZ hown (host := "") (Or.inl (hw _ (List.mem_of_getElem? (i := 9) rfl))) Via.refl e0 F67 (g := (mkF m 0 #[.val (.ref r)] [])) rfl (hb hby own_d_jdk_42_method_152_code_0)
  refine own_st st68 ?_
  show own_Go p e below s _ _ _ (T68.setTop (mkF m 3 #[.val (.ref r)] [(.int a_cs)]))
  refine own_st (fun _ k => XS.ifNo X68.here hx rfl (hb hby own_d_jdk_42_method_152_code_3) rfl (XT.i0_eq_f h_cs) k) ?_
  show own_Go p e below s _ _ _ (T68.setTop (mkF m 6 #[.val (.ref r)] []))
  refine own_st (fun _ k => XS.aloadN X68.here hx rfl (hb hby own_d_jdk_42_method_152_code_6) rfl rfl k) ?_
  show own_Go p e below s _ _ _ (T68.setTop (mkF m 7 #[.val (.ref r)] [(.ref r)]))
  obtain ⟨T69, X69, e69, st69⟩ := getF X68 hx hZ hown (host := "") (Or.inl (hw _ (List.mem_of_getElem? (i := 29) rfl))) Via.refl e68 F1 (g := (mkF m 7 #[.val (.ref r)] [(.ref r)])) rfl rfl (hb hby own_d_jdk_42_method_152_code_7)
  refine own_st st69 ?_
  show own_Go p e below s _ _ _ (T69.setTop (mkF m 10 #[.val (.ref r)] [(.int (0 : Int32))]))
  refine own_st (fun _ k => XS.goto X69.here hx rfl (pc0 := 10) (pc' := 14) rfl (hb hby own_d_jdk_42_method_152_code_10) (by decide) (by decide) k) ?_
  show own_Go p e below s _ _ _ (T69.setTop (mkF m 14 #[.val (.ref r)] [(.int (0 : Int32))]))
  refine own_retN X69 hx hlk Bd.returns (t := .byte) (z' := (0 : Int32)) (by simp) (by decide) (hb hby own_d_jdk_42_method_152_code_14) (by decide) (by decide) ?_
  rw [e69]
  exact ⟨N0, rfl, rfl⟩
theorem own_d_jdk_123_method_3_code_0 : decode jdk_123_method_3_code 0 = .ok (.iload_n 1, 1) := by decide +kernel
theorem own_d_jdk_123_method_3_code_1 : decode jdk_123_method_3_code 1 = .ok (.iload_n 2, 1) := by decide +kernel
theorem own_d_jdk_123_method_3_code_2 : decode jdk_123_method_3_code 2 = .ok (.iadd, 1) := by decide +kernel
theorem own_d_jdk_123_method_3_code_3 : decode jdk_123_method_3_code 3 = .ok (.istore_n 3, 1) := by decide +kernel
theorem own_d_jdk_123_method_3_code_4 : decode jdk_123_method_3_code 4 = .ok (.iload_n 1, 1) := by decide +kernel
theorem own_d_jdk_123_method_3_code_5 : decode jdk_123_method_3_code 5 = .ok (.istore 4, 2) := by decide +kernel
theorem own_d_jdk_123_method_3_code_7 : decode jdk_123_method_3_code 7 = .ok (.iload 4, 2) := by decide +kernel
theorem own_d_jdk_123_method_3_code_9 : decode jdk_123_method_3_code 9 = .ok (.iload_n 3, 1) := by decide +kernel
theorem own_d_jdk_123_method_3_code_10 : decode jdk_123_method_3_code 10 = .ok (.if_icmp .ge 21, 3) := by decide +kernel
theorem own_d_jdk_123_method_3_code_13 : decode jdk_123_method_3_code 13 = .ok (.aload_n 0, 1) := by decide +kernel
theorem own_d_jdk_123_method_3_code_14 : decode jdk_123_method_3_code 14 = .ok (.iload 4, 2) := by decide +kernel
theorem own_d_jdk_123_method_3_code_16 : decode jdk_123_method_3_code 16 = .ok (.baload, 1) := by decide +kernel
theorem own_d_jdk_123_method_3_code_17 : decode jdk_123_method_3_code 17 = .ok (.ifCond .ge 8, 3) := by decide +kernel
theorem own_d_jdk_123_method_3_code_20 : decode jdk_123_method_3_code 20 = .ok (.iload 4, 2) := by decide +kernel
theorem own_d_jdk_123_method_3_code_22 : decode jdk_123_method_3_code 22 = .ok (.iload_n 1, 1) := by decide +kernel
theorem own_d_jdk_123_method_3_code_23 : decode jdk_123_method_3_code 23 = .ok (.isub, 1) := by decide +kernel
theorem own_d_jdk_123_method_3_code_24 : decode jdk_123_method_3_code 24 = .ok (.ireturn, 1) := by decide +kernel
theorem own_d_jdk_123_method_3_code_25 : decode jdk_123_method_3_code 25 = .ok (.iinc 4 1, 3) := by decide +kernel
theorem own_d_jdk_123_method_3_code_28 : decode jdk_123_method_3_code 28 = .ok (.goto (-21), 3) := by decide +kernel
theorem own_d_jdk_123_method_3_code_31 : decode jdk_123_method_3_code 31 = .ok (.iload_n 2, 1) := by decide +kernel
theorem own_d_jdk_123_method_3_code_32 : decode jdk_123_method_3_code 32 = .ok (.ireturn, 1) := by decide +kernel
theorem own_pn7 : plainFor (⟨"java/lang/StringCoding", "countPositives", "([BII)I"⟩ : MethodName) = true := by decide +kernel
def own_rm_cp_Q (Z : State) (b : Addr) (kk : ClassId) (x : Int32) (h0 : Heap) (n0 : Nat) (v : Option Value) (h : Heap) (L : List Loc) : Prop := Fr n0 L ∧ v = some (.int (if x < 0 then (0 : Int32) else 1)) ∧ h = h0
theorem own_rm_cp_ef (m : MethodId) (b : Addr) : entryFrame m #[(.ref b), (.int (0 : Int32)), (.int (1 : Int32))] 5 = mkF m 0 #[.val (.ref b), .val (.int (0 : Int32)), .val (.int (1 : Int32)), .unset, .unset] [] := by first | (simp [entryFrame, mkF, argsToLocals, Value.category]; done) | rfl
set_option maxRecDepth 65536 in
set_option maxHeartbeats 40000000 in
theorem own_rm_cp (l : Launch) (Z : State) (a0 : Array Value) (hw : ∀ d ∈ tables_1, d.before a0 Z = true) (ws : List Jvm.Cond) (b : Addr) (kk : ClassId) (x : Int32) (h0 : Heap) (n0 : Nat) (Z0 : n0 ≤ h0.size) (V1 : Arv Z h0 b kk .byte (1 : Int32) [(.int x)] (.int (0 : Int32))) :
    MetFree l (⟨"java/lang/StringCoding", "countPositives", "([BII)I"⟩ : MethodName) (head1 (Jvm.Cond.code (⟨"java/lang/StringCoding", "countPositives", "([BII)I"⟩ : MethodName) jdk_123_method_3_code 5 (some .int) :: ws) ({ frames := 0, cells := 0, slots := 0, locals := 0 } : Room)) (fun a U => a = #[(.ref b), (.int (0 : Int32)), (.int (1 : Int32))] ∧ Z.Warmed39 U.vm ∧ U.heap = h0) (fun _ _ _ _ _ => True) (fun _ U o U' => ∃ v L, o = .returned v ∧ own_rm_cp_Q Z b kk x h0 n0 v U'.heap L ∧ FrameEnd U o U' L ({ frames := 0, cells := 0, slots := 0, locals := 0 } : Room).cells ({ frames := 0, cells := 0, slots := 0, locals := 0 } : Room).slots) := by
  refine MetFree.of_bodySF own_pn7 hisR ?_
  intro p e s m args below meth c s₁ Bd hml0 hP hK
  obtain ⟨rfl, hZ, hh⟩ := hP
  have hx := Bd.exec
  have hby := Bd.bytes
  have hml : c.maxLocals = 5 := hml0
  have hlk := BodyLoose.notSynchronized Bd
  have hown : s.vm.findClass "java/lang/StringCoding" = some m.cls := findClass_of_methodNamed Bd.named
  have hnm := (name_of_methodNamed Bd.named Bd.method).1
  have X0 : Stand p l e ({ frames := 0, cells := 0, slots := 0, locals := 0 } : Room) s m #[(.ref b), (.int (0 : Int32)), (.int (1 : Int32))] below meth c s₁ [] 0 0 := Stand.of_body Bd
  have e0 : s₁.heap = h0 := by rw [← hh, Bd.state]; rfl
  have N0 := Fr.nil n0
  show own_Go p e below s (own_rm_cp_Q Z b kk x h0 n0) ({ frames := 0, cells := 0, slots := 0, locals := 0 } : Room).cells ({ frames := 0, cells := 0, slots := 0, locals := 0 } : Room).slots (s₁.setTop (entryFrame m #[(.ref b), (.int (0 : Int32)), (.int (1 : Int32))] 5))
  rw [own_rm_cp_ef]
  show own_Go p e below s _ _ _ (s₁.setTop (mkF m 0 #[.val (.ref b), .val (.int (0 : Int32)), .val (.int (1 : Int32)), .unset, .unset] []))
  refine own_st (fun _ k => XS.iloadN X0.here hx rfl (hb hby own_d_jdk_123_method_3_code_0) rfl k) ?_
  show own_Go p e below s _ _ _ (s₁.setTop (mkF m 1 #[.val (.ref b), .val (.int (0 : Int32)), .val (.int (1 : Int32)), .unset, .unset] [(.int (0 : Int32))]))
  refine own_st (fun _ k => XS.iloadN X0.here hx rfl (hb hby own_d_jdk_123_method_3_code_1) rfl k) ?_
  show own_Go p e below s _ _ _ (s₁.setTop (mkF m 2 #[.val (.ref b), .val (.int (0 : Int32)), .val (.int (1 : Int32)), .unset, .unset] [(.int (1 : Int32)), (.int (0 : Int32))]))
  refine own_st (fun _ k => XS.iadd X0.here hx rfl (hb hby own_d_jdk_123_method_3_code_2) rfl k) ?_
  show own_Go p e below s _ _ _ (s₁.setTop (mkF m 3 #[.val (.ref b), .val (.int (0 : Int32)), .val (.int (1 : Int32)), .unset, .unset] [(.int (1 : Int32))]))
  refine own_st (fun _ k => XS.istoreN X0.here hx rfl (hb hby own_d_jdk_123_method_3_code_3) rfl (l' := #[.val (.ref b), .val (.int (0 : Int32)), .val (.int (1 : Int32)), .val (.int (1 : Int32)), .unset]) rfl k) ?_
  show own_Go p e below s _ _ _ (s₁.setTop (mkF m 4 #[.val (.ref b), .val (.int (0 : Int32)), .val (.int (1 : Int32)), .val (.int (1 : Int32)), .unset] []))
  refine own_st (fun _ k => XS.iloadN X0.here hx rfl (hb hby own_d_jdk_123_method_3_code_4) rfl k) ?_
  show own_Go p e below s _ _ _ (s₁.setTop (mkF m 5 #[.val (.ref b), .val (.int (0 : Int32)), .val (.int (1 : Int32)), .val (.int (1 : Int32)), .unset] [(.int (0 : Int32))]))
  refine own_st (fun _ k => XS.istore X0.here hx rfl (hb hby own_d_jdk_123_method_3_code_5) rfl (l' := #[.val (.ref b), .val (.int (0 : Int32)), .val (.int (1 : Int32)), .val (.int (1 : Int32)), .val (.int (0 : Int32))]) rfl k) ?_
  show own_Go p e below s _ _ _ (s₁.setTop (mkF m 7 #[.val (.ref b), .val (.int (0 : Int32)), .val (.int (1 : Int32)), .val (.int (1 : Int32)), .val (.int (0 : Int32))] []))
  refine own_st (fun _ k => XS.iload X0.here hx rfl (hb hby own_d_jdk_123_method_3_code_7) rfl k) ?_
  show own_Go p e below s _ _ _ (s₁.setTop (mkF m 9 #[.val (.ref b), .val (.int (0 : Int32)), .val (.int (1 : Int32)), .val (.int (1 : Int32)), .val (.int (0 : Int32))] [(.int (0 : Int32))]))
  refine own_st (fun _ k => XS.iloadN X0.here hx rfl (hb hby own_d_jdk_123_method_3_code_9) rfl k) ?_
  show own_Go p e below s _ _ _ (s₁.setTop (mkF m 10 #[.val (.ref b), .val (.int (0 : Int32)), .val (.int (1 : Int32)), .val (.int (1 : Int32)), .val (.int (0 : Int32))] [(.int (1 : Int32)), (.int (0 : Int32))]))
  refine own_st (fun _ k => XS.icmpNo X0.here hx rfl (hb hby own_d_jdk_123_method_3_code_10) rfl (XT.ii_ge_f (by decide)) k) ?_
  show own_Go p e below s _ _ _ (s₁.setTop (mkF m 13 #[.val (.ref b), .val (.int (0 : Int32)), .val (.int (1 : Int32)), .val (.int (1 : Int32)), .val (.int (0 : Int32))] []))
  refine own_st (fun _ k => XS.aloadN X0.here hx rfl (hb hby own_d_jdk_123_method_3_code_13) rfl rfl k) ?_
  show own_Go p e below s _ _ _ (s₁.setTop (mkF m 14 #[.val (.ref b), .val (.int (0 : Int32)), .val (.int (1 : Int32)), .val (.int (1 : Int32)), .val (.int (0 : Int32))] [(.ref b)]))
  refine own_st (fun _ k => XS.iload X0.here hx rfl (hb hby own_d_jdk_123_method_3_code_14) rfl k) ?_
  show own_Go p e below s _ _ _ (s₁.setTop (mkF m 16 #[.val (.ref b), .val (.int (0 : Int32)), .val (.int (1 : Int32)), .val (.int (1 : Int32)), .val (.int (0 : Int32))] [(.int (0 : Int32)), (.ref b)]))
  obtain ⟨cl70, Ar70, kc70, S70, Nn70, H70, G70⟩ := id V1
  have hin70 : ¬ ((0 : Int32) < 0 ∨ cl70.slots.size ≤ ((0 : Int32) : Int32).toNatClampNeg) := inb_of S70 (by decide)
  have hat70 : cl70.slots[((0 : Int32) : Int32).toNatClampNeg]? = some (.int x) := H70.at hin70 rfl
  refine own_st (fun _ k => X0.baloadBytes hx (j := (0 : Int32)) (v := (.int x)) (own_hp e0 Ar70.1) (State.isArrayOf_alike hZ.alike Ar70.2.1) Ar70.2.2 hin70 hat70 (g := (mkF m 16 #[.val (.ref b), .val (.int (0 : Int32)), .val (.int (1 : Int32)), .val (.int (1 : Int32)), .val (.int (0 : Int32))] [(.int (0 : Int32)), (.ref b)])) rfl rfl (hb hby own_d_jdk_123_method_3_code_16) _ k) ?_
  show own_Go p e below s _ _ _ (s₁.setTop (mkF m 17 #[.val (.ref b), .val (.int (0 : Int32)), .val (.int (1 : Int32)), .val (.int (1 : Int32)), .val (.int (0 : Int32))] [(.int x)]))
  by_cases hc71 : x < 0
  · refine own_st (fun _ k => XS.ifNo X0.here hx rfl (hb hby own_d_jdk_123_method_3_code_17) rfl (XT.i0_ge_f hc71) k) ?_
    show own_Go p e below s _ _ _ (s₁.setTop (mkF m 20 #[.val (.ref b), .val (.int (0 : Int32)), .val (.int (1 : Int32)), .val (.int (1 : Int32)), .val (.int (0 : Int32))] []))
    refine own_st (fun _ k => XS.iload X0.here hx rfl (hb hby own_d_jdk_123_method_3_code_20) rfl k) ?_
    show own_Go p e below s _ _ _ (s₁.setTop (mkF m 22 #[.val (.ref b), .val (.int (0 : Int32)), .val (.int (1 : Int32)), .val (.int (1 : Int32)), .val (.int (0 : Int32))] [(.int (0 : Int32))]))
    refine own_st (fun _ k => XS.iloadN X0.here hx rfl (hb hby own_d_jdk_123_method_3_code_22) rfl k) ?_
    show own_Go p e below s _ _ _ (s₁.setTop (mkF m 23 #[.val (.ref b), .val (.int (0 : Int32)), .val (.int (1 : Int32)), .val (.int (1 : Int32)), .val (.int (0 : Int32))] [(.int (0 : Int32)), (.int (0 : Int32))]))
    refine own_st (fun _ k => XS.isub X0.here hx rfl (hb hby own_d_jdk_123_method_3_code_23) rfl k) ?_
    show own_Go p e below s _ _ _ (s₁.setTop (mkF m 24 #[.val (.ref b), .val (.int (0 : Int32)), .val (.int (1 : Int32)), .val (.int (1 : Int32)), .val (.int (0 : Int32))] [(.int (0 : Int32))]))
    refine own_retI X0 hx hlk Bd.returns (hb hby own_d_jdk_123_method_3_code_24) (by decide) (by decide) ?_
    rw [e0]
    exact ⟨N0, (by rw [if_pos hc71]), rfl⟩
  · refine own_st (fun _ k => XS.ifYes X0.here hx rfl (pc0 := 17) (pc' := 25) rfl (hb hby own_d_jdk_123_method_3_code_17) rfl (XT.i0_ge_t hc71) (by decide) (by decide) k) ?_
    show own_Go p e below s _ _ _ (s₁.setTop (mkF m 25 #[.val (.ref b), .val (.int (0 : Int32)), .val (.int (1 : Int32)), .val (.int (1 : Int32)), .val (.int (0 : Int32))] []))
    refine own_st (fun _ k => XT.iincV X0.here hx rfl (1 : Int32) (hb hby own_d_jdk_123_method_3_code_25) (by decide) rfl (l' := #[.val (.ref b), .val (.int (0 : Int32)), .val (.int (1 : Int32)), .val (.int (1 : Int32)), .val (.int (1 : Int32))]) rfl k) ?_
    show own_Go p e below s _ _ _ (s₁.setTop (mkF m 28 #[.val (.ref b), .val (.int (0 : Int32)), .val (.int (1 : Int32)), .val (.int (1 : Int32)), .val (.int (1 : Int32))] []))
    refine own_st (fun _ k => XS.goto X0.here hx rfl (pc0 := 28) (pc' := 7) rfl (hb hby own_d_jdk_123_method_3_code_28) (by decide) (by decide) k) ?_
    show own_Go p e below s _ _ _ (s₁.setTop (mkF m 7 #[.val (.ref b), .val (.int (0 : Int32)), .val (.int (1 : Int32)), .val (.int (1 : Int32)), .val (.int (1 : Int32))] []))
    refine own_st (fun _ k => XS.iload X0.here hx rfl (hb hby own_d_jdk_123_method_3_code_7) rfl k) ?_
    show own_Go p e below s _ _ _ (s₁.setTop (mkF m 9 #[.val (.ref b), .val (.int (0 : Int32)), .val (.int (1 : Int32)), .val (.int (1 : Int32)), .val (.int (1 : Int32))] [(.int (1 : Int32))]))
    refine own_st (fun _ k => XS.iloadN X0.here hx rfl (hb hby own_d_jdk_123_method_3_code_9) rfl k) ?_
    show own_Go p e below s _ _ _ (s₁.setTop (mkF m 10 #[.val (.ref b), .val (.int (0 : Int32)), .val (.int (1 : Int32)), .val (.int (1 : Int32)), .val (.int (1 : Int32))] [(.int (1 : Int32)), (.int (1 : Int32))]))
    refine own_st (fun _ k => XS.icmpYes X0.here hx rfl (pc0 := 10) (pc' := 31) rfl (hb hby own_d_jdk_123_method_3_code_10) rfl (XT.ii_ge_t (by decide)) (by decide) (by decide) k) ?_
    show own_Go p e below s _ _ _ (s₁.setTop (mkF m 31 #[.val (.ref b), .val (.int (0 : Int32)), .val (.int (1 : Int32)), .val (.int (1 : Int32)), .val (.int (1 : Int32))] []))
    refine own_st (fun _ k => XS.iloadN X0.here hx rfl (hb hby own_d_jdk_123_method_3_code_31) rfl k) ?_
    show own_Go p e below s _ _ _ (s₁.setTop (mkF m 32 #[.val (.ref b), .val (.int (0 : Int32)), .val (.int (1 : Int32)), .val (.int (1 : Int32)), .val (.int (1 : Int32))] [(.int (1 : Int32))]))
    refine own_retI X0 hx hlk Bd.returns (hb hby own_d_jdk_123_method_3_code_32) (by decide) (by decide) ?_
    rw [e0]
    exact ⟨N0, (by rw [if_neg hc71]), rfl⟩
theorem own_d_jdk_123_method_2_code_0 : decode jdk_123_method_2_code 0 = .ok (.aload_n 0, 1) := by decide +kernel
theorem own_d_jdk_123_method_2_code_1 : decode jdk_123_method_2_code 1 = .ok (.iload_n 1, 1) := by decide +kernel
theorem own_d_jdk_123_method_2_code_2 : decode jdk_123_method_2_code 2 = .ok (.iload_n 2, 1) := by decide +kernel
theorem own_d_jdk_123_method_2_code_3 : decode jdk_123_method_2_code 3 = .ok (.invokestatic 7, 3) := by decide +kernel
theorem own_d_jdk_123_method_2_code_6 : decode jdk_123_method_2_code 6 = .ok (.iload_n 2, 1) := by decide +kernel
theorem own_d_jdk_123_method_2_code_7 : decode jdk_123_method_2_code 7 = .ok (.if_icmp .eq 7, 3) := by decide +kernel
theorem own_d_jdk_123_method_2_code_10 : decode jdk_123_method_2_code 10 = .ok (.iconst 1, 1) := by decide +kernel
theorem own_d_jdk_123_method_2_code_11 : decode jdk_123_method_2_code 11 = .ok (.goto 4, 3) := by decide +kernel
theorem own_d_jdk_123_method_2_code_14 : decode jdk_123_method_2_code 14 = .ok (.iconst 0, 1) := by decide +kernel
theorem own_d_jdk_123_method_2_code_15 : decode jdk_123_method_2_code 15 = .ok (.ireturn, 1) := by decide +kernel
theorem own_pn8 : plainFor (⟨"java/lang/StringCoding", "hasNegatives", "([BII)Z"⟩ : MethodName) = true := by decide +kernel
theorem own_pd3 : parseMethodDescriptor "([BII)I" = some ⟨[(.array .byte), .int, .int], some .int⟩ := by decide +kernel
def own_rm_hn_Q (Z : State) (b : Addr) (kk : ClassId) (x : Int32) (h0 : Heap) (n0 : Nat) (v : Option Value) (h : Heap) (L : List Loc) : Prop := Fr n0 L ∧ v = some (.int (if x < 0 then (1 : Int32) else 0)) ∧ h = h0
theorem own_rm_hn_ef (m : MethodId) (b : Addr) : entryFrame m #[(.ref b), (.int (0 : Int32)), (.int (1 : Int32))] 3 = mkF m 0 #[.val (.ref b), .val (.int (0 : Int32)), .val (.int (1 : Int32))] [] := by first | (simp [entryFrame, mkF, argsToLocals, Value.category]; done) | rfl
set_option maxRecDepth 65536 in
set_option maxHeartbeats 40000000 in
theorem own_rm_hn (l : Launch) (Z : State) (a0 : Array Value) (hw : ∀ d ∈ tables_1, d.before a0 Z = true) (ws : List Jvm.Cond) (b : Addr) (kk : ClassId) (x : Int32) (h0 : Heap) (n0 : Nat) (Z0 : n0 ≤ h0.size) (V1 : Arv Z h0 b kk .byte (1 : Int32) [(.int x)] (.int (0 : Int32))) :
    MetFree l (⟨"java/lang/StringCoding", "hasNegatives", "([BII)Z"⟩ : MethodName) (head1 (Jvm.Cond.code (⟨"java/lang/StringCoding", "hasNegatives", "([BII)Z"⟩ : MethodName) jdk_123_method_2_code 3 (some .boolean) :: ws) ({ frames := 1, cells := 0, slots := 0, locals := 16 } : Room)) (fun a U => a = #[(.ref b), (.int (0 : Int32)), (.int (1 : Int32))] ∧ Z.Warmed39 U.vm ∧ U.heap = h0) (fun _ _ _ _ _ => True) (fun _ U o U' => ∃ v L, o = .returned v ∧ own_rm_hn_Q Z b kk x h0 n0 v U'.heap L ∧ FrameEnd U o U' L ({ frames := 1, cells := 0, slots := 0, locals := 16 } : Room).cells ({ frames := 1, cells := 0, slots := 0, locals := 16 } : Room).slots) := by
  refine MetFree.of_bodySF own_pn8 hisR ?_
  intro p e s m args below meth c s₁ Bd hml0 hP hK
  obtain ⟨rfl, hZ, hh⟩ := hP
  have hx := Bd.exec
  have hby := Bd.bytes
  have hml : c.maxLocals = 3 := hml0
  have hlk := BodyLoose.notSynchronized Bd
  have hown : s.vm.findClass "java/lang/StringCoding" = some m.cls := findClass_of_methodNamed Bd.named
  have hnm := (name_of_methodNamed Bd.named Bd.method).1
  have X0 : Stand p l e ({ frames := 1, cells := 0, slots := 0, locals := 16 } : Room) s m #[(.ref b), (.int (0 : Int32)), (.int (1 : Int32))] below meth c s₁ [] 0 0 := Stand.of_body Bd
  have e0 : s₁.heap = h0 := by rw [← hh, Bd.state]; rfl
  have N0 := Fr.nil n0
  show own_Go p e below s (own_rm_hn_Q Z b kk x h0 n0) ({ frames := 1, cells := 0, slots := 0, locals := 16 } : Room).cells ({ frames := 1, cells := 0, slots := 0, locals := 16 } : Room).slots (s₁.setTop (entryFrame m #[(.ref b), (.int (0 : Int32)), (.int (1 : Int32))] 3))
  rw [own_rm_hn_ef]
  show own_Go p e below s _ _ _ (s₁.setTop (mkF m 0 #[.val (.ref b), .val (.int (0 : Int32)), .val (.int (1 : Int32))] []))
  by_cases hx0 : x < 0
  · skip
    show own_Go p e below s _ _ _ (s₁.setTop (mkF m 0 #[.val (.ref b), .val (.int (0 : Int32)), .val (.int (1 : Int32))] []))
    refine own_st (fun _ k => XS.aloadN X0.here hx rfl (hb hby own_d_jdk_123_method_2_code_0) rfl rfl k) ?_
    show own_Go p e below s _ _ _ (s₁.setTop (mkF m 1 #[.val (.ref b), .val (.int (0 : Int32)), .val (.int (1 : Int32))] [(.ref b)]))
    refine own_st (fun _ k => XS.iloadN X0.here hx rfl (hb hby own_d_jdk_123_method_2_code_1) rfl k) ?_
    show own_Go p e below s _ _ _ (s₁.setTop (mkF m 2 #[.val (.ref b), .val (.int (0 : Int32)), .val (.int (1 : Int32))] [(.int (0 : Int32)), (.ref b)]))
    refine own_st (fun _ k => XS.iloadN X0.here hx rfl (hb hby own_d_jdk_123_method_2_code_2) rfl k) ?_
    show own_Go p e below s _ _ _ (s₁.setTop (mkF m 3 #[.val (.ref b), .val (.int (0 : Int32)), .val (.int (1 : Int32))] [(.int (1 : Int32)), (.int (0 : Int32)), (.ref b)]))
    obtain ⟨_, _, ⟨T72, L72, k72, n72⟩, -, X72, ⟨Lc72, hQ72, l72, y72, z72⟩, st72⟩ := Jvm.LawKit.callS X0 hx (y := (⟨"java/lang/StringCoding", "countPositives", "([BII)I"⟩ : MethodName)) hown (mvT hZ (hw _ (List.mem_of_getElem? (i := 69) rfl))) (mvT hZ (hw _ (List.mem_of_getElem? (i := 70) rfl))) (mvT hZ (hw _ (List.mem_of_getElem? (i := 67) rfl))) (mvT hZ (hw _ (List.mem_of_getElem? (i := 71) rfl))) (by decide) (backOf (W := 0) (own_rm_cp l Z a0 hw [] b kk x h0 n0 Z0 V1) hZ (hw _ (List.mem_of_getElem? (i := 71) rfl)) (hw _ (List.mem_of_getElem? (i := 67) rfl)) (by decide) (by decide)) (g := (mkF m 3 #[.val (.ref b), .val (.int (0 : Int32)), .val (.int (1 : Int32))] [(.int (1 : Int32)), (.int (0 : Int32)), (.ref b)])) rfl (by rw [hml]; rfl) (argsL := [(.ref b), (.int (0 : Int32)), (.int (1 : Int32))]) (rest := []) (lenOf own_pd3 rfl) rfl (by show 2 * 0 + _ ≤ _; exact Nat.le_of_eq rfl) (hb hby own_d_jdk_123_method_2_code_3) (fun _ _ => ⟨rfl, e0, (by decide : 0 + 0 ≤ _), (by decide : 0 + 0 ≤ _)⟩)
    dsimp only [Pt.U, Pt.locs, Pt.cells, Pt.slots] at X72 l72 y72 z72 st72 hQ72
    subst l72 y72 z72
    obtain ⟨N72q, rfl, eh72⟩ := hQ72
    have N73 := Fr.app N0 N72q
    refine own_st st72 ?_
    show own_Go p e below s _ _ _ (T72.setTop (mkF m 6 #[.val (.ref b), .val (.int (0 : Int32)), .val (.int (1 : Int32))] [(.int (if x < 0 then (0 : Int32) else 1))]))
    refine own_st (fun _ k => XS.iloadN X72.here hx rfl (hb hby own_d_jdk_123_method_2_code_6) rfl k) ?_
    show own_Go p e below s _ _ _ (T72.setTop (mkF m 7 #[.val (.ref b), .val (.int (0 : Int32)), .val (.int (1 : Int32))] [(.int (1 : Int32)), (.int (if x < 0 then (0 : Int32) else 1))]))
    refine own_st (fun _ k => XS.icmpNo X72.here hx rfl (hb hby own_d_jdk_123_method_2_code_7) rfl (XT.ii_eq_f (by simp [hx0])) k) ?_
    show own_Go p e below s _ _ _ (T72.setTop (mkF m 10 #[.val (.ref b), .val (.int (0 : Int32)), .val (.int (1 : Int32))] []))
    refine own_st (fun _ k => XT.iconstV X72.here hx rfl (1 : Int32) (hb hby own_d_jdk_123_method_2_code_10) (by decide) k) ?_
    show own_Go p e below s _ _ _ (T72.setTop (mkF m 11 #[.val (.ref b), .val (.int (0 : Int32)), .val (.int (1 : Int32))] [(.int (1 : Int32))]))
    refine own_st (fun _ k => XS.goto X72.here hx rfl (pc0 := 11) (pc' := 15) rfl (hb hby own_d_jdk_123_method_2_code_11) (by decide) (by decide) k) ?_
    show own_Go p e below s _ _ _ (T72.setTop (mkF m 15 #[.val (.ref b), .val (.int (0 : Int32)), .val (.int (1 : Int32))] [(.int (1 : Int32))]))
    refine own_retN X72 hx hlk Bd.returns (t := .boolean) (z' := (1 : Int32)) (by simp) (by decide) (hb hby own_d_jdk_123_method_2_code_15) (by decide) (by decide) ?_
    rw [eh72]
    exact ⟨N73, (by simp [hx0]), rfl⟩
  · skip
    show own_Go p e below s _ _ _ (s₁.setTop (mkF m 0 #[.val (.ref b), .val (.int (0 : Int32)), .val (.int (1 : Int32))] []))
    refine own_st (fun _ k => XS.aloadN X0.here hx rfl (hb hby own_d_jdk_123_method_2_code_0) rfl rfl k) ?_
    show own_Go p e below s _ _ _ (s₁.setTop (mkF m 1 #[.val (.ref b), .val (.int (0 : Int32)), .val (.int (1 : Int32))] [(.ref b)]))
    refine own_st (fun _ k => XS.iloadN X0.here hx rfl (hb hby own_d_jdk_123_method_2_code_1) rfl k) ?_
    show own_Go p e below s _ _ _ (s₁.setTop (mkF m 2 #[.val (.ref b), .val (.int (0 : Int32)), .val (.int (1 : Int32))] [(.int (0 : Int32)), (.ref b)]))
    refine own_st (fun _ k => XS.iloadN X0.here hx rfl (hb hby own_d_jdk_123_method_2_code_2) rfl k) ?_
    show own_Go p e below s _ _ _ (s₁.setTop (mkF m 3 #[.val (.ref b), .val (.int (0 : Int32)), .val (.int (1 : Int32))] [(.int (1 : Int32)), (.int (0 : Int32)), (.ref b)]))
    obtain ⟨_, _, ⟨T74, L74, k74, n74⟩, -, X74, ⟨Lc74, hQ74, l74, y74, z74⟩, st74⟩ := Jvm.LawKit.callS X0 hx (y := (⟨"java/lang/StringCoding", "countPositives", "([BII)I"⟩ : MethodName)) hown (mvT hZ (hw _ (List.mem_of_getElem? (i := 69) rfl))) (mvT hZ (hw _ (List.mem_of_getElem? (i := 70) rfl))) (mvT hZ (hw _ (List.mem_of_getElem? (i := 67) rfl))) (mvT hZ (hw _ (List.mem_of_getElem? (i := 71) rfl))) (by decide) (backOf (W := 0) (own_rm_cp l Z a0 hw [] b kk x h0 n0 Z0 V1) hZ (hw _ (List.mem_of_getElem? (i := 71) rfl)) (hw _ (List.mem_of_getElem? (i := 67) rfl)) (by decide) (by decide)) (g := (mkF m 3 #[.val (.ref b), .val (.int (0 : Int32)), .val (.int (1 : Int32))] [(.int (1 : Int32)), (.int (0 : Int32)), (.ref b)])) rfl (by rw [hml]; rfl) (argsL := [(.ref b), (.int (0 : Int32)), (.int (1 : Int32))]) (rest := []) (lenOf own_pd3 rfl) rfl (by show 2 * 0 + _ ≤ _; exact Nat.le_of_eq rfl) (hb hby own_d_jdk_123_method_2_code_3) (fun _ _ => ⟨rfl, e0, (by decide : 0 + 0 ≤ _), (by decide : 0 + 0 ≤ _)⟩)
    dsimp only [Pt.U, Pt.locs, Pt.cells, Pt.slots] at X74 l74 y74 z74 st74 hQ74
    subst l74 y74 z74
    obtain ⟨N74q, rfl, eh74⟩ := hQ74
    have N75 := Fr.app N0 N74q
    refine own_st st74 ?_
    show own_Go p e below s _ _ _ (T74.setTop (mkF m 6 #[.val (.ref b), .val (.int (0 : Int32)), .val (.int (1 : Int32))] [(.int (if x < 0 then (0 : Int32) else 1))]))
    refine own_st (fun _ k => XS.iloadN X74.here hx rfl (hb hby own_d_jdk_123_method_2_code_6) rfl k) ?_
    show own_Go p e below s _ _ _ (T74.setTop (mkF m 7 #[.val (.ref b), .val (.int (0 : Int32)), .val (.int (1 : Int32))] [(.int (1 : Int32)), (.int (if x < 0 then (0 : Int32) else 1))]))
    refine own_st (fun _ k => XS.icmpYes X74.here hx rfl (pc0 := 7) (pc' := 14) rfl (hb hby own_d_jdk_123_method_2_code_7) rfl (XT.ii_eq_t (by simp [hx0])) (by decide) (by decide) k) ?_
    show own_Go p e below s _ _ _ (T74.setTop (mkF m 14 #[.val (.ref b), .val (.int (0 : Int32)), .val (.int (1 : Int32))] []))
    refine own_st (fun _ k => XT.iconstV X74.here hx rfl (0 : Int32) (hb hby own_d_jdk_123_method_2_code_14) (by decide) k) ?_
    show own_Go p e below s _ _ _ (T74.setTop (mkF m 15 #[.val (.ref b), .val (.int (0 : Int32)), .val (.int (1 : Int32))] [(.int (0 : Int32))]))
    refine own_retN X74 hx hlk Bd.returns (t := .boolean) (z' := (0 : Int32)) (by simp) (by decide) (hb hby own_d_jdk_123_method_2_code_15) (by decide) (by decide) ?_
    rw [eh74]
    exact ⟨N75, (by simp [hx0]), rfl⟩
theorem own_d_jdk_52_method_3_code_0 : decode jdk_52_method_3_code 0 = .ok (.iload_n 0, 1) := by decide +kernel
theorem own_d_jdk_52_method_3_code_1 : decode jdk_52_method_3_code 1 = .ok (.ifCond .ge 11, 3) := by decide +kernel
theorem own_d_jdk_52_method_3_code_4 : decode jdk_52_method_3_code 4 = .ok (.new 17, 3) := by decide +kernel
theorem own_d_jdk_52_method_3_code_7 : decode jdk_52_method_3_code 7 = .ok (.dup, 1) := by decide +kernel
theorem own_d_jdk_52_method_3_code_8 : decode jdk_52_method_3_code 8 = .ok (.invokespecial 19, 3) := by decide +kernel
theorem own_d_jdk_52_method_3_code_11 : decode jdk_52_method_3_code 11 = .ok (.athrow, 1) := by decide +kernel
theorem own_d_jdk_52_method_3_code_12 : decode jdk_52_method_3_code 12 = .ok (.iload_n 0, 1) := by decide +kernel
theorem own_d_jdk_52_method_3_code_13 : decode jdk_52_method_3_code 13 = .ok (.ldc 20, 2) := by decide +kernel
theorem own_d_jdk_52_method_3_code_15 : decode jdk_52_method_3_code 15 = .ok (.if_icmp .lt 40, 3) := by decide +kernel
theorem own_d_jdk_52_method_3_code_18 : decode jdk_52_method_3_code 18 = .ok (.new 21, 3) := by decide +kernel
theorem own_d_jdk_52_method_3_code_21 : decode jdk_52_method_3_code 21 = .ok (.dup, 1) := by decide +kernel
theorem own_d_jdk_52_method_3_code_22 : decode jdk_52_method_3_code 22 = .ok (.new 23, 3) := by decide +kernel
theorem own_d_jdk_52_method_3_code_25 : decode jdk_52_method_3_code 25 = .ok (.dup, 1) := by decide +kernel
theorem own_d_jdk_52_method_3_code_26 : decode jdk_52_method_3_code 26 = .ok (.invokespecial 25, 3) := by decide +kernel
theorem own_d_jdk_52_method_3_code_29 : decode jdk_52_method_3_code 29 = .ok (.ldc 26, 2) := by decide +kernel
theorem own_d_jdk_52_method_3_code_31 : decode jdk_52_method_3_code 31 = .ok (.invokevirtual 28, 3) := by decide +kernel
theorem own_d_jdk_52_method_3_code_34 : decode jdk_52_method_3_code 34 = .ok (.iload_n 0, 1) := by decide +kernel
theorem own_d_jdk_52_method_3_code_35 : decode jdk_52_method_3_code 35 = .ok (.invokevirtual 32, 3) := by decide +kernel
theorem own_d_jdk_52_method_3_code_38 : decode jdk_52_method_3_code 38 = .ok (.ldc 35, 2) := by decide +kernel
theorem own_d_jdk_52_method_3_code_40 : decode jdk_52_method_3_code 40 = .ok (.invokevirtual 28, 3) := by decide +kernel
theorem own_d_jdk_52_method_3_code_43 : decode jdk_52_method_3_code 43 = .ok (.ldc 20, 2) := by decide +kernel
theorem own_d_jdk_52_method_3_code_45 : decode jdk_52_method_3_code 45 = .ok (.invokevirtual 32, 3) := by decide +kernel
theorem own_d_jdk_52_method_3_code_48 : decode jdk_52_method_3_code 48 = .ok (.invokevirtual 37, 3) := by decide +kernel
theorem own_d_jdk_52_method_3_code_51 : decode jdk_52_method_3_code 51 = .ok (.invokespecial 41, 3) := by decide +kernel
theorem own_d_jdk_52_method_3_code_54 : decode jdk_52_method_3_code 54 = .ok (.athrow, 1) := by decide +kernel
theorem own_d_jdk_52_method_3_code_55 : decode jdk_52_method_3_code 55 = .ok (.iload_n 0, 1) := by decide +kernel
theorem own_d_jdk_52_method_3_code_56 : decode jdk_52_method_3_code 56 = .ok (.iconst 1, 1) := by decide +kernel
theorem own_d_jdk_52_method_3_code_57 : decode jdk_52_method_3_code 57 = .ok (.ishl, 1) := by decide +kernel
theorem own_d_jdk_52_method_3_code_58 : decode jdk_52_method_3_code 58 = .ok (.ireturn, 1) := by decide +kernel
theorem own_pn9 : plainFor (⟨"java/lang/StringUTF16", "newBytesLength", "(I)I"⟩ : MethodName) = true := by decide +kernel
def own_rm_nbl_Q (Z : State)  (h0 : Heap) (n0 : Nat) (v : Option Value) (h : Heap) (L : List Loc) : Prop := Fr n0 L ∧ v = some (.int (2 : Int32)) ∧ h = h0
theorem own_rm_nbl_ef (m : MethodId)  : entryFrame m #[(.int (1 : Int32))] 1 = mkF m 0 #[.val (.int (1 : Int32))] [] := by first | (simp [entryFrame, mkF, argsToLocals, Value.category]; done) | rfl
set_option maxRecDepth 65536 in
set_option maxHeartbeats 40000000 in
theorem own_rm_nbl (l : Launch) (Z : State) (a0 : Array Value) (hw : ∀ d ∈ tables_1, d.before a0 Z = true) (ws : List Jvm.Cond)  (h0 : Heap) (n0 : Nat) (Z0 : n0 ≤ h0.size)  :
    MetFree l (⟨"java/lang/StringUTF16", "newBytesLength", "(I)I"⟩ : MethodName) (head1 (Jvm.Cond.code (⟨"java/lang/StringUTF16", "newBytesLength", "(I)I"⟩ : MethodName) jdk_52_method_3_code 1 (some .int) :: ws) ({ frames := 0, cells := 0, slots := 0, locals := 0 } : Room)) (fun a U => a = #[(.int (1 : Int32))] ∧ Z.Warmed39 U.vm ∧ U.heap = h0) (fun _ _ _ _ _ => True) (fun _ U o U' => ∃ v L, o = .returned v ∧ own_rm_nbl_Q Z  h0 n0 v U'.heap L ∧ FrameEnd U o U' L ({ frames := 0, cells := 0, slots := 0, locals := 0 } : Room).cells ({ frames := 0, cells := 0, slots := 0, locals := 0 } : Room).slots) := by
  refine MetFree.of_bodySF own_pn9 hisR ?_
  intro p e s m args below meth c s₁ Bd hml0 hP hK
  obtain ⟨rfl, hZ, hh⟩ := hP
  have hx := Bd.exec
  have hby := Bd.bytes
  have hml : c.maxLocals = 1 := hml0
  have hlk := BodyLoose.notSynchronized Bd
  have hown : s.vm.findClass "java/lang/StringUTF16" = some m.cls := findClass_of_methodNamed Bd.named
  have hnm := (name_of_methodNamed Bd.named Bd.method).1
  have X0 : Stand p l e ({ frames := 0, cells := 0, slots := 0, locals := 0 } : Room) s m #[(.int (1 : Int32))] below meth c s₁ [] 0 0 := Stand.of_body Bd
  have e0 : s₁.heap = h0 := by rw [← hh, Bd.state]; rfl
  have N0 := Fr.nil n0
  show own_Go p e below s (own_rm_nbl_Q Z  h0 n0) ({ frames := 0, cells := 0, slots := 0, locals := 0 } : Room).cells ({ frames := 0, cells := 0, slots := 0, locals := 0 } : Room).slots (s₁.setTop (entryFrame m #[(.int (1 : Int32))] 1))
  rw [own_rm_nbl_ef]
  show own_Go p e below s _ _ _ (s₁.setTop (mkF m 0 #[.val (.int (1 : Int32))] []))
  refine own_st (fun _ k => XS.iloadN X0.here hx rfl (hb hby own_d_jdk_52_method_3_code_0) rfl k) ?_
  show own_Go p e below s _ _ _ (s₁.setTop (mkF m 1 #[.val (.int (1 : Int32))] [(.int (1 : Int32))]))
  refine own_st (fun _ k => XS.ifYes X0.here hx rfl (pc0 := 1) (pc' := 12) rfl (hb hby own_d_jdk_52_method_3_code_1) rfl (XT.i0_ge_t (by decide)) (by decide) (by decide) k) ?_
  show own_Go p e below s _ _ _ (s₁.setTop (mkF m 12 #[.val (.int (1 : Int32))] []))
  refine own_st (fun _ k => XS.iloadN X0.here hx rfl (hb hby own_d_jdk_52_method_3_code_12) rfl k) ?_
  show own_Go p e below s _ _ _ (s₁.setTop (mkF m 13 #[.val (.int (1 : Int32))] [(.int (1 : Int32))]))
  refine own_st (fun _ k => X0.ldcI hx hown (mvT hZ (hw _ (List.mem_of_getElem? (i := 100) rfl))) rfl (hb hby own_d_jdk_52_method_3_code_13) k) ?_
  show own_Go p e below s _ _ _ (s₁.setTop (mkF m 15 #[.val (.int (1 : Int32))] [(.int (1073741823 : Int32)), (.int (1 : Int32))]))
  refine own_st (fun _ k => XS.icmpYes X0.here hx rfl (pc0 := 15) (pc' := 55) rfl (hb hby own_d_jdk_52_method_3_code_15) rfl (XT.ii_lt_t (by decide)) (by decide) (by decide) k) ?_
  show own_Go p e below s _ _ _ (s₁.setTop (mkF m 55 #[.val (.int (1 : Int32))] []))
  refine own_st (fun _ k => XS.iloadN X0.here hx rfl (hb hby own_d_jdk_52_method_3_code_55) rfl k) ?_
  show own_Go p e below s _ _ _ (s₁.setTop (mkF m 56 #[.val (.int (1 : Int32))] [(.int (1 : Int32))]))
  refine own_st (fun _ k => XT.iconstV X0.here hx rfl (1 : Int32) (hb hby own_d_jdk_52_method_3_code_56) (by decide) k) ?_
  show own_Go p e below s _ _ _ (s₁.setTop (mkF m 57 #[.val (.int (1 : Int32))] [(.int (1 : Int32)), (.int (1 : Int32))]))
  refine own_st (fun _ k => XT.ishl X0.here hx rfl (hb hby own_d_jdk_52_method_3_code_57) rfl k) ?_
  show own_Go p e below s _ _ _ (s₁.setTop (mkF m 58 #[.val (.int (1 : Int32))] [(.int (2 : Int32))]))
  refine own_retI X0 hx hlk Bd.returns (hb hby own_d_jdk_52_method_3_code_58) (by decide) (by decide) ?_
  rw [e0]
  exact ⟨N0, rfl, rfl⟩
theorem own_d_jdk_52_method_2_code_0 : decode jdk_52_method_2_code 0 = .ok (.iload_n 0, 1) := by decide +kernel
theorem own_d_jdk_52_method_2_code_1 : decode jdk_52_method_2_code 1 = .ok (.invokestatic 11, 3) := by decide +kernel
theorem own_d_jdk_52_method_2_code_4 : decode jdk_52_method_2_code 4 = .ok (.newarray .byte, 2) := by decide +kernel
theorem own_d_jdk_52_method_2_code_6 : decode jdk_52_method_2_code 6 = .ok (.areturn, 1) := by decide +kernel
theorem own_pn10 : plainFor (⟨"java/lang/StringUTF16", "newBytesFor", "(I)[B"⟩ : MethodName) = true := by decide +kernel
theorem own_pd4 : parseMethodDescriptor "(I)I" = some ⟨[.int], some .int⟩ := by decide +kernel
def own_rm_nbf_Q (Z : State)  (h0 : Heap) (n0 : Nat) (v : Option Value) (h : Heap) (L : List Loc) : Prop := ∃ r : Addr, ∃ kk : ClassId, Fr n0 L ∧ v = some (.ref r) ∧ Keep h0 h [] ∧ h0.size ≤ r ∧ Exa Z h r "[B" ∧ Arv Z h r kk .byte (2 : Int32) [(.int (0 : Int32)), (.int (0 : Int32))] (.int (0 : Int32))
theorem own_rm_nbf_ef (m : MethodId)  : entryFrame m #[(.int (1 : Int32))] 1 = mkF m 0 #[.val (.int (1 : Int32))] [] := by first | (simp [entryFrame, mkF, argsToLocals, Value.category]; done) | rfl
set_option maxRecDepth 65536 in
set_option maxHeartbeats 40000000 in
theorem own_rm_nbf (l : Launch) (Z : State) (a0 : Array Value) (hw : ∀ d ∈ tables_1, d.before a0 Z = true) (ws : List Jvm.Cond)  (h0 : Heap) (n0 : Nat) (Z0 : n0 ≤ h0.size)  :
    MetFree l (⟨"java/lang/StringUTF16", "newBytesFor", "(I)[B"⟩ : MethodName) (head1 (Jvm.Cond.code (⟨"java/lang/StringUTF16", "newBytesFor", "(I)[B"⟩ : MethodName) jdk_52_method_2_code 1 (some (.array .byte)) :: ws) ({ frames := 1, cells := 1, slots := 2, locals := 12 } : Room)) (fun a U => a = #[(.int (1 : Int32))] ∧ Z.Warmed39 U.vm ∧ U.heap = h0) (fun _ _ _ _ _ => True) (fun _ U o U' => ∃ v L, o = .returned v ∧ own_rm_nbf_Q Z  h0 n0 v U'.heap L ∧ FrameEnd U o U' L ({ frames := 1, cells := 1, slots := 2, locals := 12 } : Room).cells ({ frames := 1, cells := 1, slots := 2, locals := 12 } : Room).slots) := by
  refine MetFree.of_bodySF own_pn10 hisR ?_
  intro p e s m args below meth c s₁ Bd hml0 hP hK
  obtain ⟨rfl, hZ, hh⟩ := hP
  have hx := Bd.exec
  have hby := Bd.bytes
  have hml : c.maxLocals = 1 := hml0
  have hlk := BodyLoose.notSynchronized Bd
  have hown : s.vm.findClass "java/lang/StringUTF16" = some m.cls := findClass_of_methodNamed Bd.named
  have hnm := (name_of_methodNamed Bd.named Bd.method).1
  have X0 : Stand p l e ({ frames := 1, cells := 1, slots := 2, locals := 12 } : Room) s m #[(.int (1 : Int32))] below meth c s₁ [] 0 0 := Stand.of_body Bd
  have e0 : s₁.heap = h0 := by rw [← hh, Bd.state]; rfl
  have N0 := Fr.nil n0
  have Kp0 : Keep h0 h0 [] := Keep.refl _ _
  show own_Go p e below s (own_rm_nbf_Q Z  h0 n0) ({ frames := 1, cells := 1, slots := 2, locals := 12 } : Room).cells ({ frames := 1, cells := 1, slots := 2, locals := 12 } : Room).slots (s₁.setTop (entryFrame m #[(.int (1 : Int32))] 1))
  rw [own_rm_nbf_ef]
  show own_Go p e below s _ _ _ (s₁.setTop (mkF m 0 #[.val (.int (1 : Int32))] []))
  refine own_st (fun _ k => XS.iloadN X0.here hx rfl (hb hby own_d_jdk_52_method_2_code_0) rfl k) ?_
  show own_Go p e below s _ _ _ (s₁.setTop (mkF m 1 #[.val (.int (1 : Int32))] [(.int (1 : Int32))]))
  obtain ⟨_, _, ⟨T76, L76, k76, n76⟩, -, X76, ⟨Lc76, hQ76, l76, y76, z76⟩, st76⟩ := Jvm.LawKit.callS X0 hx (y := (⟨"java/lang/StringUTF16", "newBytesLength", "(I)I"⟩ : MethodName)) hown (mvT hZ (hw _ (List.mem_of_getElem? (i := 97) rfl))) (mvT hZ (hw _ (List.mem_of_getElem? (i := 98) rfl))) (mvT hZ (hw _ (List.mem_of_getElem? (i := 95) rfl))) (mvT hZ (hw _ (List.mem_of_getElem? (i := 99) rfl))) (by decide) (backOf (W := 0) (own_rm_nbl l Z a0 hw []  h0 n0 Z0 ) hZ (hw _ (List.mem_of_getElem? (i := 99) rfl)) (hw _ (List.mem_of_getElem? (i := 95) rfl)) (by decide) (by decide)) (g := (mkF m 1 #[.val (.int (1 : Int32))] [(.int (1 : Int32))])) rfl (by rw [hml]; rfl) (argsL := [(.int (1 : Int32))]) (rest := []) (lenOf own_pd4 rfl) rfl (by show 2 * 0 + _ ≤ _; exact Nat.le_of_eq rfl) (hb hby own_d_jdk_52_method_2_code_1) (fun _ _ => ⟨rfl, e0, (by decide : 0 + 0 ≤ _), (by decide : 0 + 0 ≤ _)⟩)
  dsimp only [Pt.U, Pt.locs, Pt.cells, Pt.slots] at X76 l76 y76 z76 st76 hQ76
  subst l76 y76 z76
  obtain ⟨N76q, rfl, eh76⟩ := hQ76
  have N77 := Fr.app N0 N76q
  refine own_st st76 ?_
  show own_Go p e below s _ _ _ (T76.setTop (mkF m 4 #[.val (.int (1 : Int32))] [(.int (2 : Int32))]))
  obtain ⟨T78, h78, k78, X78, e78, E78, A78, Ea78, st78⟩ := newPE X76 hx hZ (aty := .byte) (hw _ (List.mem_of_getElem? (i := 19) rfl)) eh76 (g := (mkF m 4 #[.val (.int (1 : Int32))] [(.int (2 : Int32))])) rfl (hb hby own_d_jdk_52_method_2_code_4) rfl (by decide) (cap := 2) (by decide) (by decide) (by decide) (by decide) (ad := "[B") (by decide +kernel)
  obtain ⟨b78, g78⟩ : ∃ z, z = h0.size := ⟨_, rfl⟩
  rw [← g78] at A78 Ea78 st78
  refine own_st st78 ?_
  have Zs79 : n0 ≤ h78.size := Nat.le_trans Z0 E78.1
  have Kp80 : Keep h0 h78 [] := Kp0.ext E78
  have g81 : n0 ≤ b78 := Nat.le_trans Z0 (Nat.le_of_eq g78.symm)
  have sz82 : h0.size ≤ b78 := Nat.le_trans Kp0.1 (Nat.le_of_eq g78.symm)
  have F83 : Arv Z h78 b78 k78 .byte (2 : Int32) [(.int (0 : Int32)), (.int (0 : Int32))] (.int (0 : Int32)) := (Arv.new A78 (by decide)).pad (fun i => own_pad 2 _ i)
  show own_Go p e below s _ _ _ (T78.setTop (mkF m 6 #[.val (.int (1 : Int32))] [(.ref b78)]))
  refine own_retA X78 hx hlk Bd.returns rfl (hb hby own_d_jdk_52_method_2_code_6) (by decide) (by decide) ?_
  rw [e78]
  exact ⟨b78, k78, N77, rfl, Kp80, sz82, Ea78, F83⟩
theorem own_d_jdk_42_method_46_code_0 : decode jdk_42_method_46_code 0 = .ok (.iload_n 0, 1) := by decide +kernel
theorem own_d_jdk_42_method_46_code_1 : decode jdk_42_method_46_code 1 = .ok (.iconst 1, 1) := by decide +kernel
theorem own_d_jdk_42_method_46_code_2 : decode jdk_42_method_46_code 2 = .ok (.if_icmp .ne 9, 3) := by decide +kernel
theorem own_d_jdk_42_method_46_code_5 : decode jdk_42_method_46_code 5 = .ok (.aload_n 1, 1) := by decide +kernel
theorem own_d_jdk_42_method_46_code_6 : decode jdk_42_method_46_code 6 = .ok (.iload_n 2, 1) := by decide +kernel
theorem own_d_jdk_42_method_46_code_7 : decode jdk_42_method_46_code 7 = .ok (.invokestatic 473, 3) := by decide +kernel
theorem own_d_jdk_42_method_46_code_10 : decode jdk_42_method_46_code 10 = .ok (.areturn, 1) := by decide +kernel
theorem own_d_jdk_42_method_46_code_11 : decode jdk_42_method_46_code 11 = .ok (.aload_n 1, 1) := by decide +kernel
theorem own_d_jdk_42_method_46_code_12 : decode jdk_42_method_46_code 12 = .ok (.iconst 0, 1) := by decide +kernel
theorem own_d_jdk_42_method_46_code_13 : decode jdk_42_method_46_code 13 = .ok (.aload_n 1, 1) := by decide +kernel
theorem own_d_jdk_42_method_46_code_14 : decode jdk_42_method_46_code 14 = .ok (.arraylength, 1) := by decide +kernel
theorem own_d_jdk_42_method_46_code_15 : decode jdk_42_method_46_code 15 = .ok (.invokestatic 128, 3) := by decide +kernel
theorem own_d_jdk_42_method_46_code_18 : decode jdk_42_method_46_code 18 = .ok (.ifCond .ne 11, 3) := by decide +kernel
theorem own_d_jdk_42_method_46_code_21 : decode jdk_42_method_46_code 21 = .ok (.aload_n 1, 1) := by decide +kernel
theorem own_d_jdk_42_method_46_code_22 : decode jdk_42_method_46_code 22 = .ok (.invokevirtual 279, 3) := by decide +kernel
theorem own_d_jdk_42_method_46_code_25 : decode jdk_42_method_46_code 25 = .ok (.checkcast 280, 3) := by decide +kernel
theorem own_d_jdk_42_method_46_code_28 : decode jdk_42_method_46_code 28 = .ok (.areturn, 1) := by decide +kernel
theorem own_d_jdk_42_method_46_code_29 : decode jdk_42_method_46_code 29 = .ok (.iconst 0, 1) := by decide +kernel
theorem own_d_jdk_42_method_46_code_30 : decode jdk_42_method_46_code 30 = .ok (.istore_n 3, 1) := by decide +kernel
theorem own_d_jdk_42_method_46_code_31 : decode jdk_42_method_46_code 31 = .ok (.aload_n 1, 1) := by decide +kernel
theorem own_d_jdk_42_method_46_code_32 : decode jdk_42_method_46_code 32 = .ok (.arraylength, 1) := by decide +kernel
theorem own_d_jdk_42_method_46_code_33 : decode jdk_42_method_46_code 33 = .ok (.invokestatic 60, 3) := by decide +kernel
theorem own_d_jdk_42_method_46_code_36 : decode jdk_42_method_46_code 36 = .ok (.astore 4, 2) := by decide +kernel
theorem own_d_jdk_42_method_46_code_38 : decode jdk_42_method_46_code 38 = .ok (.aload_n 1, 1) := by decide +kernel
theorem own_d_jdk_42_method_46_code_39 : decode jdk_42_method_46_code 39 = .ok (.astore 5, 2) := by decide +kernel
theorem own_d_jdk_42_method_46_code_41 : decode jdk_42_method_46_code 41 = .ok (.aload 5, 2) := by decide +kernel
theorem own_d_jdk_42_method_46_code_43 : decode jdk_42_method_46_code 43 = .ok (.arraylength, 1) := by decide +kernel
theorem own_d_jdk_42_method_46_code_44 : decode jdk_42_method_46_code 44 = .ok (.istore 6, 2) := by decide +kernel
theorem own_d_jdk_42_method_46_code_46 : decode jdk_42_method_46_code 46 = .ok (.iconst 0, 1) := by decide +kernel
theorem own_d_jdk_42_method_46_code_47 : decode jdk_42_method_46_code 47 = .ok (.istore 7, 2) := by decide +kernel
theorem own_d_jdk_42_method_46_code_49 : decode jdk_42_method_46_code 49 = .ok (.iload 7, 2) := by decide +kernel
theorem own_d_jdk_42_method_46_code_51 : decode jdk_42_method_46_code 51 = .ok (.iload 6, 2) := by decide +kernel
theorem own_d_jdk_42_method_46_code_53 : decode jdk_42_method_46_code 53 = .ok (.if_icmp .ge 71, 3) := by decide +kernel
theorem own_d_jdk_42_method_46_code_56 : decode jdk_42_method_46_code 56 = .ok (.aload 5, 2) := by decide +kernel
theorem own_d_jdk_42_method_46_code_58 : decode jdk_42_method_46_code 58 = .ok (.iload 7, 2) := by decide +kernel
theorem own_d_jdk_42_method_46_code_60 : decode jdk_42_method_46_code 60 = .ok (.baload, 1) := by decide +kernel
theorem own_d_jdk_42_method_46_code_61 : decode jdk_42_method_46_code 61 = .ok (.istore 8, 2) := by decide +kernel
theorem own_d_jdk_42_method_46_code_63 : decode jdk_42_method_46_code 63 = .ok (.iload 8, 2) := by decide +kernel
theorem own_d_jdk_42_method_46_code_65 : decode jdk_42_method_46_code 65 = .ok (.ifCond .ge 44, 3) := by decide +kernel
theorem own_d_jdk_42_method_46_code_68 : decode jdk_42_method_46_code 68 = .ok (.aload 4, 2) := by decide +kernel
theorem own_d_jdk_42_method_46_code_70 : decode jdk_42_method_46_code 70 = .ok (.iload_n 3, 1) := by decide +kernel
theorem own_d_jdk_42_method_46_code_71 : decode jdk_42_method_46_code 71 = .ok (.iinc 3 1, 3) := by decide +kernel
theorem own_d_jdk_42_method_46_code_74 : decode jdk_42_method_46_code 74 = .ok (.sipush 192, 3) := by decide +kernel
theorem own_d_jdk_42_method_46_code_77 : decode jdk_42_method_46_code 77 = .ok (.iload 8, 2) := by decide +kernel
theorem own_d_jdk_42_method_46_code_79 : decode jdk_42_method_46_code 79 = .ok (.sipush 255, 3) := by decide +kernel
theorem own_d_jdk_42_method_46_code_82 : decode jdk_42_method_46_code 82 = .ok (.iand, 1) := by decide +kernel
theorem own_d_jdk_42_method_46_code_83 : decode jdk_42_method_46_code 83 = .ok (.bipush 6, 2) := by decide +kernel
theorem own_d_jdk_42_method_46_code_85 : decode jdk_42_method_46_code 85 = .ok (.ishr, 1) := by decide +kernel
theorem own_d_jdk_42_method_46_code_86 : decode jdk_42_method_46_code 86 = .ok (.ior, 1) := by decide +kernel
theorem own_d_jdk_42_method_46_code_87 : decode jdk_42_method_46_code 87 = .ok (.i2b, 1) := by decide +kernel
theorem own_d_jdk_42_method_46_code_88 : decode jdk_42_method_46_code 88 = .ok (.bastore, 1) := by decide +kernel
theorem own_d_jdk_42_method_46_code_89 : decode jdk_42_method_46_code 89 = .ok (.aload 4, 2) := by decide +kernel
theorem own_d_jdk_42_method_46_code_91 : decode jdk_42_method_46_code 91 = .ok (.iload_n 3, 1) := by decide +kernel
theorem own_d_jdk_42_method_46_code_92 : decode jdk_42_method_46_code 92 = .ok (.iinc 3 1, 3) := by decide +kernel
theorem own_d_jdk_42_method_46_code_95 : decode jdk_42_method_46_code 95 = .ok (.sipush 128, 3) := by decide +kernel
theorem own_d_jdk_42_method_46_code_98 : decode jdk_42_method_46_code 98 = .ok (.iload 8, 2) := by decide +kernel
theorem own_d_jdk_42_method_46_code_100 : decode jdk_42_method_46_code 100 = .ok (.bipush 63, 2) := by decide +kernel
theorem own_d_jdk_42_method_46_code_102 : decode jdk_42_method_46_code 102 = .ok (.iand, 1) := by decide +kernel
theorem own_d_jdk_42_method_46_code_103 : decode jdk_42_method_46_code 103 = .ok (.ior, 1) := by decide +kernel
theorem own_d_jdk_42_method_46_code_104 : decode jdk_42_method_46_code 104 = .ok (.i2b, 1) := by decide +kernel
theorem own_d_jdk_42_method_46_code_105 : decode jdk_42_method_46_code 105 = .ok (.bastore, 1) := by decide +kernel
theorem own_d_jdk_42_method_46_code_106 : decode jdk_42_method_46_code 106 = .ok (.goto 12, 3) := by decide +kernel
theorem own_d_jdk_42_method_46_code_109 : decode jdk_42_method_46_code 109 = .ok (.aload 4, 2) := by decide +kernel
theorem own_d_jdk_42_method_46_code_111 : decode jdk_42_method_46_code 111 = .ok (.iload_n 3, 1) := by decide +kernel
theorem own_d_jdk_42_method_46_code_112 : decode jdk_42_method_46_code 112 = .ok (.iinc 3 1, 3) := by decide +kernel
theorem own_d_jdk_42_method_46_code_115 : decode jdk_42_method_46_code 115 = .ok (.iload 8, 2) := by decide +kernel
theorem own_d_jdk_42_method_46_code_117 : decode jdk_42_method_46_code 117 = .ok (.bastore, 1) := by decide +kernel
theorem own_d_jdk_42_method_46_code_118 : decode jdk_42_method_46_code 118 = .ok (.iinc 7 1, 3) := by decide +kernel
theorem own_d_jdk_42_method_46_code_121 : decode jdk_42_method_46_code 121 = .ok (.goto (-72), 3) := by decide +kernel
theorem own_d_jdk_42_method_46_code_124 : decode jdk_42_method_46_code 124 = .ok (.iload_n 3, 1) := by decide +kernel
theorem own_d_jdk_42_method_46_code_125 : decode jdk_42_method_46_code 125 = .ok (.aload 4, 2) := by decide +kernel
theorem own_d_jdk_42_method_46_code_127 : decode jdk_42_method_46_code 127 = .ok (.arraylength, 1) := by decide +kernel
theorem own_d_jdk_42_method_46_code_128 : decode jdk_42_method_46_code 128 = .ok (.if_icmp .ne 6, 3) := by decide +kernel
theorem own_d_jdk_42_method_46_code_131 : decode jdk_42_method_46_code 131 = .ok (.aload 4, 2) := by decide +kernel
theorem own_d_jdk_42_method_46_code_133 : decode jdk_42_method_46_code 133 = .ok (.areturn, 1) := by decide +kernel
theorem own_d_jdk_42_method_46_code_134 : decode jdk_42_method_46_code 134 = .ok (.aload 4, 2) := by decide +kernel
theorem own_d_jdk_42_method_46_code_136 : decode jdk_42_method_46_code 136 = .ok (.iload_n 3, 1) := by decide +kernel
theorem own_d_jdk_42_method_46_code_137 : decode jdk_42_method_46_code 137 = .ok (.invokestatic 102, 3) := by decide +kernel
theorem own_d_jdk_42_method_46_code_140 : decode jdk_42_method_46_code 140 = .ok (.areturn, 1) := by decide +kernel
theorem own_pn11 : plainFor (⟨"java/lang/String", "encodeUTF8", "(B[BZ)[B"⟩ : MethodName) = true := by decide +kernel
theorem own_pd5 : parseMethodDescriptor "([BII)Z" = some ⟨[(.array .byte), .int, .int], some .boolean⟩ := by decide +kernel
theorem own_pd6 : parseMethodDescriptor "(I)[B" = some ⟨[.int], some (.array .byte)⟩ := by decide +kernel
def own_rm_eu8_Q (Z : State) (b : Addr) (kk : ClassId) (x : Int32) (h0 : Heap) (n0 : Nat) (v : Option Value) (h : Heap) (L : List Loc) : Prop := ∃ r2 : Addr, ∃ k2 : ClassId, ∃ z2 : Int32, ∃ vs2 : List Value, Fr n0 L ∧ v = some (.ref r2) ∧ Keep h0 h [] ∧ Arv Z h r2 k2 .byte z2 vs2 (.int (0 : Int32)) ∧ ¬ (32767 : Int32) < z2
theorem own_rm_eu8_ef (m : MethodId) (b : Addr) : entryFrame m #[(.int (0 : Int32)), (.ref b), (.int (1 : Int32))] 9 = mkF m 0 #[.val (.int (0 : Int32)), .val (.ref b), .val (.int (1 : Int32)), .unset, .unset, .unset, .unset, .unset, .unset] [] := by first | (simp [entryFrame, mkF, argsToLocals, Value.category]; done) | rfl
set_option maxRecDepth 65536 in
set_option maxHeartbeats 40000000 in
theorem own_rm_eu8 (l : Launch) (Z : State) (a0 : Array Value) (hw : ∀ d ∈ tables_1, d.before a0 Z = true) (ws : List Jvm.Cond) (b : Addr) (kk : ClassId) (x : Int32) (h0 : Heap) (n0 : Nat) (Z0 : n0 ≤ h0.size) (V1 : Arv Z h0 b kk .byte (1 : Int32) [(.int x)] (.int (0 : Int32))) (E1 : Exa Z h0 b "[B") :
    MetFree l (⟨"java/lang/String", "encodeUTF8", "(B[BZ)[B"⟩ : MethodName) (head1 (Jvm.Cond.code (⟨"java/lang/String", "encodeUTF8", "(B[BZ)[B"⟩ : MethodName) jdk_42_method_46_code 9 (some (.array .byte)) :: ws) ({ frames := 2, cells := 1, slots := 2, locals := 30 } : Room)) (fun a U => a = #[(.int (0 : Int32)), (.ref b), (.int (1 : Int32))] ∧ Z.Warmed39 U.vm ∧ U.heap = h0) (fun _ _ _ _ _ => True) (fun _ U o U' => ∃ v L, o = .returned v ∧ own_rm_eu8_Q Z b kk x h0 n0 v U'.heap L ∧ FrameEnd U o U' L ({ frames := 2, cells := 1, slots := 2, locals := 30 } : Room).cells ({ frames := 2, cells := 1, slots := 2, locals := 30 } : Room).slots) := by
  refine MetFree.of_bodySF own_pn11 hisR ?_
  intro p e s m args below meth c s₁ Bd hml0 hP hK
  obtain ⟨rfl, hZ, hh⟩ := hP
  have hx := Bd.exec
  have hby := Bd.bytes
  have hml : c.maxLocals = 9 := hml0
  have hlk := BodyLoose.notSynchronized Bd
  have hown : s.vm.findClass "java/lang/String" = some m.cls := findClass_of_methodNamed Bd.named
  have hnm := (name_of_methodNamed Bd.named Bd.method).1
  have X0 : Stand p l e ({ frames := 2, cells := 1, slots := 2, locals := 30 } : Room) s m #[(.int (0 : Int32)), (.ref b), (.int (1 : Int32))] below meth c s₁ [] 0 0 := Stand.of_body Bd
  have e0 : s₁.heap = h0 := by rw [← hh, Bd.state]; rfl
  have N0 := Fr.nil n0
  have Kp0 : Keep h0 h0 [] := Keep.refl _ _
  show own_Go p e below s (own_rm_eu8_Q Z b kk x h0 n0) ({ frames := 2, cells := 1, slots := 2, locals := 30 } : Room).cells ({ frames := 2, cells := 1, slots := 2, locals := 30 } : Room).slots (s₁.setTop (entryFrame m #[(.int (0 : Int32)), (.ref b), (.int (1 : Int32))] 9))
  rw [own_rm_eu8_ef]
  show own_Go p e below s _ _ _ (s₁.setTop (mkF m 0 #[.val (.int (0 : Int32)), .val (.ref b), .val (.int (1 : Int32)), .unset, .unset, .unset, .unset, .unset, .unset] []))
  by_cases hx0 : x < 0
  · skip
    show own_Go p e below s _ _ _ (s₁.setTop (mkF m 0 #[.val (.int (0 : Int32)), .val (.ref b), .val (.int (1 : Int32)), .unset, .unset, .unset, .unset, .unset, .unset] []))
    refine own_st (fun _ k => XS.iloadN X0.here hx rfl (hb hby own_d_jdk_42_method_46_code_0) rfl k) ?_
    show own_Go p e below s _ _ _ (s₁.setTop (mkF m 1 #[.val (.int (0 : Int32)), .val (.ref b), .val (.int (1 : Int32)), .unset, .unset, .unset, .unset, .unset, .unset] [(.int (0 : Int32))]))
    refine own_st (fun _ k => XT.iconstV X0.here hx rfl (1 : Int32) (hb hby own_d_jdk_42_method_46_code_1) (by decide) k) ?_
    show own_Go p e below s _ _ _ (s₁.setTop (mkF m 2 #[.val (.int (0 : Int32)), .val (.ref b), .val (.int (1 : Int32)), .unset, .unset, .unset, .unset, .unset, .unset] [(.int (1 : Int32)), (.int (0 : Int32))]))
    refine own_st (fun _ k => XS.icmpYes X0.here hx rfl (pc0 := 2) (pc' := 11) rfl (hb hby own_d_jdk_42_method_46_code_2) rfl (XT.ii_ne_t (by decide)) (by decide) (by decide) k) ?_
    show own_Go p e below s _ _ _ (s₁.setTop (mkF m 11 #[.val (.int (0 : Int32)), .val (.ref b), .val (.int (1 : Int32)), .unset, .unset, .unset, .unset, .unset, .unset] []))
    refine own_st (fun _ k => XS.aloadN X0.here hx rfl (hb hby own_d_jdk_42_method_46_code_11) rfl rfl k) ?_
    show own_Go p e below s _ _ _ (s₁.setTop (mkF m 12 #[.val (.int (0 : Int32)), .val (.ref b), .val (.int (1 : Int32)), .unset, .unset, .unset, .unset, .unset, .unset] [(.ref b)]))
    refine own_st (fun _ k => XT.iconstV X0.here hx rfl (0 : Int32) (hb hby own_d_jdk_42_method_46_code_12) (by decide) k) ?_
    show own_Go p e below s _ _ _ (s₁.setTop (mkF m 13 #[.val (.int (0 : Int32)), .val (.ref b), .val (.int (1 : Int32)), .unset, .unset, .unset, .unset, .unset, .unset] [(.int (0 : Int32)), (.ref b)]))
    refine own_st (fun _ k => XS.aloadN X0.here hx rfl (hb hby own_d_jdk_42_method_46_code_13) rfl rfl k) ?_
    show own_Go p e below s _ _ _ (s₁.setTop (mkF m 14 #[.val (.int (0 : Int32)), .val (.ref b), .val (.int (1 : Int32)), .unset, .unset, .unset, .unset, .unset, .unset] [(.ref b), (.int (0 : Int32)), (.ref b)]))
    obtain ⟨cl84, Ar84, -, S84, N84, -, -⟩ := id V1
    refine own_st (fun _ k => X0.arraylength hx (own_hp e0 Ar84.1) (State.isArrayOf_alike hZ.alike Ar84.2.1) (g := (mkF m 14 #[.val (.int (0 : Int32)), .val (.ref b), .val (.int (1 : Int32)), .unset, .unset, .unset, .unset, .unset, .unset] [(.ref b), (.int (0 : Int32)), (.ref b)])) rfl rfl (hb hby own_d_jdk_42_method_46_code_14) _ k) ?_
    rw [len_of S84 N84]
    show own_Go p e below s _ _ _ (s₁.setTop (mkF m 15 #[.val (.int (0 : Int32)), .val (.ref b), .val (.int (1 : Int32)), .unset, .unset, .unset, .unset, .unset, .unset] [(.int (1 : Int32)), (.int (0 : Int32)), (.ref b)]))
    obtain ⟨_, _, ⟨T85, L85, k85, n85⟩, -, X85, ⟨Lc85, hQ85, l85, y85, z85⟩, st85⟩ := Jvm.LawKit.callS X0 hx (y := (⟨"java/lang/StringCoding", "hasNegatives", "([BII)Z"⟩ : MethodName)) hown (mvT hZ (hw _ (List.mem_of_getElem? (i := 65) rfl))) (mvT hZ (hw _ (List.mem_of_getElem? (i := 66) rfl))) (mvT hZ (hw _ (List.mem_of_getElem? (i := 67) rfl))) (mvT hZ (hw _ (List.mem_of_getElem? (i := 68) rfl))) (by decide) (backOf (W := 0) (own_rm_hn l Z a0 hw [] b kk x h0 n0 Z0 V1) hZ (hw _ (List.mem_of_getElem? (i := 68) rfl)) (hw _ (List.mem_of_getElem? (i := 67) rfl)) (by decide) (by decide)) (g := (mkF m 15 #[.val (.int (0 : Int32)), .val (.ref b), .val (.int (1 : Int32)), .unset, .unset, .unset, .unset, .unset, .unset] [(.int (1 : Int32)), (.int (0 : Int32)), (.ref b)])) rfl (by rw [hml]; rfl) (argsL := [(.ref b), (.int (0 : Int32)), (.int (1 : Int32))]) (rest := []) (lenOf own_pd5 rfl) rfl (by show 2 * 0 + _ ≤ _; exact Nat.le_of_eq rfl) (hb hby own_d_jdk_42_method_46_code_15) (fun _ _ => ⟨rfl, e0, (by decide : 0 + 0 ≤ _), (by decide : 0 + 0 ≤ _)⟩)
    dsimp only [Pt.U, Pt.locs, Pt.cells, Pt.slots] at X85 l85 y85 z85 st85 hQ85
    subst l85 y85 z85
    obtain ⟨N85q, rfl, eh85⟩ := hQ85
    have N86 := Fr.app N0 N85q
    refine own_st st85 ?_
    show own_Go p e below s _ _ _ (T85.setTop (mkF m 18 #[.val (.int (0 : Int32)), .val (.ref b), .val (.int (1 : Int32)), .unset, .unset, .unset, .unset, .unset, .unset] [(.int (if x < 0 then (1 : Int32) else 0))]))
    refine own_st (fun _ k => XS.ifYes X85.here hx rfl (pc0 := 18) (pc' := 29) rfl (hb hby own_d_jdk_42_method_46_code_18) rfl (XT.i0_ne_t (by simp [hx0])) (by decide) (by decide) k) ?_
    show own_Go p e below s _ _ _ (T85.setTop (mkF m 29 #[.val (.int (0 : Int32)), .val (.ref b), .val (.int (1 : Int32)), .unset, .unset, .unset, .unset, .unset, .unset] []))
    refine own_st (fun _ k => XT.iconstV X85.here hx rfl (0 : Int32) (hb hby own_d_jdk_42_method_46_code_29) (by decide) k) ?_
    show own_Go p e below s _ _ _ (T85.setTop (mkF m 30 #[.val (.int (0 : Int32)), .val (.ref b), .val (.int (1 : Int32)), .unset, .unset, .unset, .unset, .unset, .unset] [(.int (0 : Int32))]))
    refine own_st (fun _ k => XS.istoreN X85.here hx rfl (hb hby own_d_jdk_42_method_46_code_30) rfl (l' := #[.val (.int (0 : Int32)), .val (.ref b), .val (.int (1 : Int32)), .val (.int (0 : Int32)), .unset, .unset, .unset, .unset, .unset]) rfl k) ?_
    show own_Go p e below s _ _ _ (T85.setTop (mkF m 31 #[.val (.int (0 : Int32)), .val (.ref b), .val (.int (1 : Int32)), .val (.int (0 : Int32)), .unset, .unset, .unset, .unset, .unset] []))
    refine own_st (fun _ k => XS.aloadN X85.here hx rfl (hb hby own_d_jdk_42_method_46_code_31) rfl rfl k) ?_
    show own_Go p e below s _ _ _ (T85.setTop (mkF m 32 #[.val (.int (0 : Int32)), .val (.ref b), .val (.int (1 : Int32)), .val (.int (0 : Int32)), .unset, .unset, .unset, .unset, .unset] [(.ref b)]))
    obtain ⟨cl87, Ar87, -, S87, N87, -, -⟩ := id V1
    refine own_st (fun _ k => X85.arraylength hx (own_hp eh85 Ar87.1) (State.isArrayOf_alike hZ.alike Ar87.2.1) (g := (mkF m 32 #[.val (.int (0 : Int32)), .val (.ref b), .val (.int (1 : Int32)), .val (.int (0 : Int32)), .unset, .unset, .unset, .unset, .unset] [(.ref b)])) rfl rfl (hb hby own_d_jdk_42_method_46_code_32) _ k) ?_
    rw [len_of S87 N87]
    show own_Go p e below s _ _ _ (T85.setTop (mkF m 33 #[.val (.int (0 : Int32)), .val (.ref b), .val (.int (1 : Int32)), .val (.int (0 : Int32)), .unset, .unset, .unset, .unset, .unset] [(.int (1 : Int32))]))
    obtain ⟨_, _, ⟨T88, L88, k88, n88⟩, -, X88, ⟨Lc88, hQ88, l88, y88, z88⟩, st88⟩ := Jvm.LawKit.callS X85 hx (y := (⟨"java/lang/StringUTF16", "newBytesFor", "(I)[B"⟩ : MethodName)) hown (mvT hZ (hw _ (List.mem_of_getElem? (i := 93) rfl))) (mvT hZ (hw _ (List.mem_of_getElem? (i := 94) rfl))) (mvT hZ (hw _ (List.mem_of_getElem? (i := 95) rfl))) (mvT hZ (hw _ (List.mem_of_getElem? (i := 96) rfl))) (by decide) (backOf (W := 0) (own_rm_nbf l Z a0 hw []  h0 n0 Z0 ) hZ (hw _ (List.mem_of_getElem? (i := 96) rfl)) (hw _ (List.mem_of_getElem? (i := 95) rfl)) (by decide) (by decide)) (g := (mkF m 33 #[.val (.int (0 : Int32)), .val (.ref b), .val (.int (1 : Int32)), .val (.int (0 : Int32)), .unset, .unset, .unset, .unset, .unset] [(.int (1 : Int32))])) rfl (by rw [hml]; rfl) (argsL := [(.int (1 : Int32))]) (rest := []) (lenOf own_pd6 rfl) rfl (by show 2 * 0 + _ ≤ _; exact Nat.le_of_eq rfl) (hb hby own_d_jdk_42_method_46_code_33) (fun _ _ => ⟨rfl, eh85, (by decide : 0 + 1 ≤ _), (by decide : 0 + 2 ≤ _)⟩)
    dsimp only [Pt.U, Pt.locs, Pt.cells, Pt.slots] at X88 l88 y88 z88 st88 hQ88
    subst l88 y88 z88
    obtain ⟨x89, x90, N88q, rfl, K88, q91, q92, q93⟩ := hQ88
    have N94 := Fr.app N86 N88q
    refine own_st st88 ?_
    have Zs95 : n0 ≤ T88.heap.size := Nat.le_trans Z0 K88.1
    have Kp96 : Keep h0 T88.heap [] := Kp0.trans K88 all0
    have g97 : n0 ≤ x89 := Nat.le_trans Z0 q91
    have sz98 : h0.size ≤ x89 := Nat.le_trans Kp0.1 q91
    show own_Go p e below s _ _ _ (T88.setTop (mkF m 36 #[.val (.int (0 : Int32)), .val (.ref b), .val (.int (1 : Int32)), .val (.int (0 : Int32)), .unset, .unset, .unset, .unset, .unset] [(.ref x89)]))
    refine own_st (fun _ k => XS.astore X88.here hx rfl (hb hby own_d_jdk_42_method_46_code_36) rfl rfl (l' := #[.val (.int (0 : Int32)), .val (.ref b), .val (.int (1 : Int32)), .val (.int (0 : Int32)), .val (.ref x89), .unset, .unset, .unset, .unset]) rfl k) ?_
    show own_Go p e below s _ _ _ (T88.setTop (mkF m 38 #[.val (.int (0 : Int32)), .val (.ref b), .val (.int (1 : Int32)), .val (.int (0 : Int32)), .val (.ref x89), .unset, .unset, .unset, .unset] []))
    refine own_st (fun _ k => XS.aloadN X88.here hx rfl (hb hby own_d_jdk_42_method_46_code_38) rfl rfl k) ?_
    show own_Go p e below s _ _ _ (T88.setTop (mkF m 39 #[.val (.int (0 : Int32)), .val (.ref b), .val (.int (1 : Int32)), .val (.int (0 : Int32)), .val (.ref x89), .unset, .unset, .unset, .unset] [(.ref b)]))
    refine own_st (fun _ k => XS.astore X88.here hx rfl (hb hby own_d_jdk_42_method_46_code_39) rfl rfl (l' := #[.val (.int (0 : Int32)), .val (.ref b), .val (.int (1 : Int32)), .val (.int (0 : Int32)), .val (.ref x89), .val (.ref b), .unset, .unset, .unset]) rfl k) ?_
    show own_Go p e below s _ _ _ (T88.setTop (mkF m 41 #[.val (.int (0 : Int32)), .val (.ref b), .val (.int (1 : Int32)), .val (.int (0 : Int32)), .val (.ref x89), .val (.ref b), .unset, .unset, .unset] []))
    refine own_st (fun _ k => XS.aload X88.here hx rfl (hb hby own_d_jdk_42_method_46_code_41) rfl rfl k) ?_
    show own_Go p e below s _ _ _ (T88.setTop (mkF m 43 #[.val (.int (0 : Int32)), .val (.ref b), .val (.int (1 : Int32)), .val (.int (0 : Int32)), .val (.ref x89), .val (.ref b), .unset, .unset, .unset] [(.ref b)]))
    have F99 : Arv Z T88.heap b kk .byte (1 : Int32) [(.int x)] (.int (0 : Int32)) := (V1.keep K88 nin0)
    obtain ⟨cl100, Ar100, -, S100, N100, -, -⟩ := id F99
    refine own_st (fun _ k => X88.arraylength hx (own_hp rfl Ar100.1) (State.isArrayOf_alike hZ.alike Ar100.2.1) (g := (mkF m 43 #[.val (.int (0 : Int32)), .val (.ref b), .val (.int (1 : Int32)), .val (.int (0 : Int32)), .val (.ref x89), .val (.ref b), .unset, .unset, .unset] [(.ref b)])) rfl rfl (hb hby own_d_jdk_42_method_46_code_43) _ k) ?_
    rw [len_of S100 N100]
    show own_Go p e below s _ _ _ (T88.setTop (mkF m 44 #[.val (.int (0 : Int32)), .val (.ref b), .val (.int (1 : Int32)), .val (.int (0 : Int32)), .val (.ref x89), .val (.ref b), .unset, .unset, .unset] [(.int (1 : Int32))]))
    refine own_st (fun _ k => XS.istore X88.here hx rfl (hb hby own_d_jdk_42_method_46_code_44) rfl (l' := #[.val (.int (0 : Int32)), .val (.ref b), .val (.int (1 : Int32)), .val (.int (0 : Int32)), .val (.ref x89), .val (.ref b), .val (.int (1 : Int32)), .unset, .unset]) rfl k) ?_
    show own_Go p e below s _ _ _ (T88.setTop (mkF m 46 #[.val (.int (0 : Int32)), .val (.ref b), .val (.int (1 : Int32)), .val (.int (0 : Int32)), .val (.ref x89), .val (.ref b), .val (.int (1 : Int32)), .unset, .unset] []))
    refine own_st (fun _ k => XT.iconstV X88.here hx rfl (0 : Int32) (hb hby own_d_jdk_42_method_46_code_46) (by decide) k) ?_
    show own_Go p e below s _ _ _ (T88.setTop (mkF m 47 #[.val (.int (0 : Int32)), .val (.ref b), .val (.int (1 : Int32)), .val (.int (0 : Int32)), .val (.ref x89), .val (.ref b), .val (.int (1 : Int32)), .unset, .unset] [(.int (0 : Int32))]))
    refine own_st (fun _ k => XS.istore X88.here hx rfl (hb hby own_d_jdk_42_method_46_code_47) rfl (l' := #[.val (.int (0 : Int32)), .val (.ref b), .val (.int (1 : Int32)), .val (.int (0 : Int32)), .val (.ref x89), .val (.ref b), .val (.int (1 : Int32)), .val (.int (0 : Int32)), .unset]) rfl k) ?_
    show own_Go p e below s _ _ _ (T88.setTop (mkF m 49 #[.val (.int (0 : Int32)), .val (.ref b), .val (.int (1 : Int32)), .val (.int (0 : Int32)), .val (.ref x89), .val (.ref b), .val (.int (1 : Int32)), .val (.int (0 : Int32)), .unset] []))
    refine own_st (fun _ k => XS.iload X88.here hx rfl (hb hby own_d_jdk_42_method_46_code_49) rfl k) ?_
    show own_Go p e below s _ _ _ (T88.setTop (mkF m 51 #[.val (.int (0 : Int32)), .val (.ref b), .val (.int (1 : Int32)), .val (.int (0 : Int32)), .val (.ref x89), .val (.ref b), .val (.int (1 : Int32)), .val (.int (0 : Int32)), .unset] [(.int (0 : Int32))]))
    refine own_st (fun _ k => XS.iload X88.here hx rfl (hb hby own_d_jdk_42_method_46_code_51) rfl k) ?_
    show own_Go p e below s _ _ _ (T88.setTop (mkF m 53 #[.val (.int (0 : Int32)), .val (.ref b), .val (.int (1 : Int32)), .val (.int (0 : Int32)), .val (.ref x89), .val (.ref b), .val (.int (1 : Int32)), .val (.int (0 : Int32)), .unset] [(.int (1 : Int32)), (.int (0 : Int32))]))
    refine own_st (fun _ k => XS.icmpNo X88.here hx rfl (hb hby own_d_jdk_42_method_46_code_53) rfl (XT.ii_ge_f (by decide)) k) ?_
    show own_Go p e below s _ _ _ (T88.setTop (mkF m 56 #[.val (.int (0 : Int32)), .val (.ref b), .val (.int (1 : Int32)), .val (.int (0 : Int32)), .val (.ref x89), .val (.ref b), .val (.int (1 : Int32)), .val (.int (0 : Int32)), .unset] []))
    refine own_st (fun _ k => XS.aload X88.here hx rfl (hb hby own_d_jdk_42_method_46_code_56) rfl rfl k) ?_
    show own_Go p e below s _ _ _ (T88.setTop (mkF m 58 #[.val (.int (0 : Int32)), .val (.ref b), .val (.int (1 : Int32)), .val (.int (0 : Int32)), .val (.ref x89), .val (.ref b), .val (.int (1 : Int32)), .val (.int (0 : Int32)), .unset] [(.ref b)]))
    refine own_st (fun _ k => XS.iload X88.here hx rfl (hb hby own_d_jdk_42_method_46_code_58) rfl k) ?_
    show own_Go p e below s _ _ _ (T88.setTop (mkF m 60 #[.val (.int (0 : Int32)), .val (.ref b), .val (.int (1 : Int32)), .val (.int (0 : Int32)), .val (.ref x89), .val (.ref b), .val (.int (1 : Int32)), .val (.int (0 : Int32)), .unset] [(.int (0 : Int32)), (.ref b)]))
    obtain ⟨cl101, Ar101, kc101, S101, Nn101, H101, G101⟩ := id F99
    have hin101 : ¬ ((0 : Int32) < 0 ∨ cl101.slots.size ≤ ((0 : Int32) : Int32).toNatClampNeg) := inb_of S101 (by decide)
    have hat101 : cl101.slots[((0 : Int32) : Int32).toNatClampNeg]? = some (.int x) := H101.at hin101 rfl
    refine own_st (fun _ k => X88.baloadBytes hx (j := (0 : Int32)) (v := (.int x)) (own_hp rfl Ar101.1) (State.isArrayOf_alike hZ.alike Ar101.2.1) Ar101.2.2 hin101 hat101 (g := (mkF m 60 #[.val (.int (0 : Int32)), .val (.ref b), .val (.int (1 : Int32)), .val (.int (0 : Int32)), .val (.ref x89), .val (.ref b), .val (.int (1 : Int32)), .val (.int (0 : Int32)), .unset] [(.int (0 : Int32)), (.ref b)])) rfl rfl (hb hby own_d_jdk_42_method_46_code_60) _ k) ?_
    show own_Go p e below s _ _ _ (T88.setTop (mkF m 61 #[.val (.int (0 : Int32)), .val (.ref b), .val (.int (1 : Int32)), .val (.int (0 : Int32)), .val (.ref x89), .val (.ref b), .val (.int (1 : Int32)), .val (.int (0 : Int32)), .unset] [(.int x)]))
    refine own_st (fun _ k => XS.istore X88.here hx rfl (hb hby own_d_jdk_42_method_46_code_61) rfl (l' := #[.val (.int (0 : Int32)), .val (.ref b), .val (.int (1 : Int32)), .val (.int (0 : Int32)), .val (.ref x89), .val (.ref b), .val (.int (1 : Int32)), .val (.int (0 : Int32)), .val (.int x)]) rfl k) ?_
    show own_Go p e below s _ _ _ (T88.setTop (mkF m 63 #[.val (.int (0 : Int32)), .val (.ref b), .val (.int (1 : Int32)), .val (.int (0 : Int32)), .val (.ref x89), .val (.ref b), .val (.int (1 : Int32)), .val (.int (0 : Int32)), .val (.int x)] []))
    refine own_st (fun _ k => XS.iload X88.here hx rfl (hb hby own_d_jdk_42_method_46_code_63) rfl k) ?_
    show own_Go p e below s _ _ _ (T88.setTop (mkF m 65 #[.val (.int (0 : Int32)), .val (.ref b), .val (.int (1 : Int32)), .val (.int (0 : Int32)), .val (.ref x89), .val (.ref b), .val (.int (1 : Int32)), .val (.int (0 : Int32)), .val (.int x)] [(.int x)]))
    refine own_st (fun _ k => XS.ifNo X88.here hx rfl (hb hby own_d_jdk_42_method_46_code_65) rfl (XT.i0_ge_f hx0) k) ?_
    show own_Go p e below s _ _ _ (T88.setTop (mkF m 68 #[.val (.int (0 : Int32)), .val (.ref b), .val (.int (1 : Int32)), .val (.int (0 : Int32)), .val (.ref x89), .val (.ref b), .val (.int (1 : Int32)), .val (.int (0 : Int32)), .val (.int x)] []))
    refine own_st (fun _ k => XS.aload X88.here hx rfl (hb hby own_d_jdk_42_method_46_code_68) rfl rfl k) ?_
    show own_Go p e below s _ _ _ (T88.setTop (mkF m 70 #[.val (.int (0 : Int32)), .val (.ref b), .val (.int (1 : Int32)), .val (.int (0 : Int32)), .val (.ref x89), .val (.ref b), .val (.int (1 : Int32)), .val (.int (0 : Int32)), .val (.int x)] [(.ref x89)]))
    refine own_st (fun _ k => XS.iloadN X88.here hx rfl (hb hby own_d_jdk_42_method_46_code_70) rfl k) ?_
    show own_Go p e below s _ _ _ (T88.setTop (mkF m 71 #[.val (.int (0 : Int32)), .val (.ref b), .val (.int (1 : Int32)), .val (.int (0 : Int32)), .val (.ref x89), .val (.ref b), .val (.int (1 : Int32)), .val (.int (0 : Int32)), .val (.int x)] [(.int (0 : Int32)), (.ref x89)]))
    refine own_st (fun _ k => XT.iincV X88.here hx rfl (1 : Int32) (hb hby own_d_jdk_42_method_46_code_71) (by decide) rfl (l' := #[.val (.int (0 : Int32)), .val (.ref b), .val (.int (1 : Int32)), .val (.int (1 : Int32)), .val (.ref x89), .val (.ref b), .val (.int (1 : Int32)), .val (.int (0 : Int32)), .val (.int x)]) rfl k) ?_
    show own_Go p e below s _ _ _ (T88.setTop (mkF m 74 #[.val (.int (0 : Int32)), .val (.ref b), .val (.int (1 : Int32)), .val (.int (1 : Int32)), .val (.ref x89), .val (.ref b), .val (.int (1 : Int32)), .val (.int (0 : Int32)), .val (.int x)] [(.int (0 : Int32)), (.ref x89)]))
    refine own_st (fun _ k => XT.sipushV X88.here hx rfl (192 : Int32) (hb hby own_d_jdk_42_method_46_code_74) (by decide) k) ?_
    show own_Go p e below s _ _ _ (T88.setTop (mkF m 77 #[.val (.int (0 : Int32)), .val (.ref b), .val (.int (1 : Int32)), .val (.int (1 : Int32)), .val (.ref x89), .val (.ref b), .val (.int (1 : Int32)), .val (.int (0 : Int32)), .val (.int x)] [(.int (192 : Int32)), (.int (0 : Int32)), (.ref x89)]))
    refine own_st (fun _ k => XS.iload X88.here hx rfl (hb hby own_d_jdk_42_method_46_code_77) rfl k) ?_
    show own_Go p e below s _ _ _ (T88.setTop (mkF m 79 #[.val (.int (0 : Int32)), .val (.ref b), .val (.int (1 : Int32)), .val (.int (1 : Int32)), .val (.ref x89), .val (.ref b), .val (.int (1 : Int32)), .val (.int (0 : Int32)), .val (.int x)] [(.int x), (.int (192 : Int32)), (.int (0 : Int32)), (.ref x89)]))
    refine own_st (fun _ k => XT.sipushV X88.here hx rfl (255 : Int32) (hb hby own_d_jdk_42_method_46_code_79) (by decide) k) ?_
    show own_Go p e below s _ _ _ (T88.setTop (mkF m 82 #[.val (.int (0 : Int32)), .val (.ref b), .val (.int (1 : Int32)), .val (.int (1 : Int32)), .val (.ref x89), .val (.ref b), .val (.int (1 : Int32)), .val (.int (0 : Int32)), .val (.int x)] [(.int (255 : Int32)), (.int x), (.int (192 : Int32)), (.int (0 : Int32)), (.ref x89)]))
    refine own_st (fun _ k => XS.iand X88.here hx rfl (hb hby own_d_jdk_42_method_46_code_82) rfl k) ?_
    show own_Go p e below s _ _ _ (T88.setTop (mkF m 83 #[.val (.int (0 : Int32)), .val (.ref b), .val (.int (1 : Int32)), .val (.int (1 : Int32)), .val (.ref x89), .val (.ref b), .val (.int (1 : Int32)), .val (.int (0 : Int32)), .val (.int x)] [(.int (x &&& (255 : Int32))), (.int (192 : Int32)), (.int (0 : Int32)), (.ref x89)]))
    refine own_st (fun _ k => XT.bipushV X88.here hx rfl (6 : Int32) (hb hby own_d_jdk_42_method_46_code_83) (by decide) k) ?_
    show own_Go p e below s _ _ _ (T88.setTop (mkF m 85 #[.val (.int (0 : Int32)), .val (.ref b), .val (.int (1 : Int32)), .val (.int (1 : Int32)), .val (.ref x89), .val (.ref b), .val (.int (1 : Int32)), .val (.int (0 : Int32)), .val (.int x)] [(.int (6 : Int32)), (.int (x &&& (255 : Int32))), (.int (192 : Int32)), (.int (0 : Int32)), (.ref x89)]))
    refine own_st (fun _ k => XT.ishr X88.here hx rfl (hb hby own_d_jdk_42_method_46_code_85) rfl k) ?_
    show own_Go p e below s _ _ _ (T88.setTop (mkF m 86 #[.val (.int (0 : Int32)), .val (.ref b), .val (.int (1 : Int32)), .val (.int (1 : Int32)), .val (.ref x89), .val (.ref b), .val (.int (1 : Int32)), .val (.int (0 : Int32)), .val (.int x)] [(.int ((x &&& (255 : Int32)) >>> ((6 : Int32) &&& 31))), (.int (192 : Int32)), (.int (0 : Int32)), (.ref x89)]))
    refine own_st (fun _ k => XT.ior X88.here hx rfl (hb hby own_d_jdk_42_method_46_code_86) rfl k) ?_
    show own_Go p e below s _ _ _ (T88.setTop (mkF m 87 #[.val (.int (0 : Int32)), .val (.ref b), .val (.int (1 : Int32)), .val (.int (1 : Int32)), .val (.ref x89), .val (.ref b), .val (.int (1 : Int32)), .val (.int (0 : Int32)), .val (.int x)] [(.int ((192 : Int32) ||| ((x &&& (255 : Int32)) >>> ((6 : Int32) &&& 31)))), (.int (0 : Int32)), (.ref x89)]))
    refine own_st (fun _ k => XT.i2b X88.here hx rfl (hb hby own_d_jdk_42_method_46_code_87) rfl k) ?_
    show own_Go p e below s _ _ _ (T88.setTop (mkF m 88 #[.val (.int (0 : Int32)), .val (.ref b), .val (.int (1 : Int32)), .val (.int (1 : Int32)), .val (.ref x89), .val (.ref b), .val (.int (1 : Int32)), .val (.int (0 : Int32)), .val (.int x)] [(.int (((192 : Int32) ||| ((x &&& (255 : Int32)) >>> ((6 : Int32) &&& 31))).toInt8.toInt32)), (.int (0 : Int32)), (.ref x89)]))
    obtain ⟨cl102, Ar102, kc102, S102, Nn102, H102, G102⟩ := id q93
    have hin102 : ¬ ((0 : Int32) < 0 ∨ cl102.slots.size ≤ ((0 : Int32) : Int32).toNatClampNeg) := inb_of S102 (by decide)
    obtain ⟨T102, h102, X102, e102, W102, st102⟩ := stB X88 hx hZ rfl Ar102 (j := (0 : Int32)) hin102 (g := (mkF m 88 #[.val (.int (0 : Int32)), .val (.ref b), .val (.int (1 : Int32)), .val (.int (1 : Int32)), .val (.ref x89), .val (.ref b), .val (.int (1 : Int32)), .val (.int (0 : Int32)), .val (.int x)] [(.int (((192 : Int32) ||| ((x &&& (255 : Int32)) >>> ((6 : Int32) &&& 31))).toInt8.toInt32)), (.int (0 : Int32)), (.ref x89)])) rfl rfl (hb hby own_d_jdk_42_method_46_code_88)
    refine own_st st102 ?_
    have N103 := Fr.snoc X102 N94 g97
    have F104 : Arv Z h102 x89 x90 .byte (2 : Int32) [(.int (nar .byte (((192 : Int32) ||| ((x &&& (255 : Int32)) >>> ((6 : Int32) &&& 31))).toInt8.toInt32))), (.int (0 : Int32))] (.int (0 : Int32)) := Arv.set Ar102 kc102 S102 Nn102 H102 G102 (fits_nar_byte _) W102 0 (by decide) (Nat.le_of_ble_eq_true rfl)
    have Zs105 : n0 ≤ h102.size := Nat.le_trans Zs95 (Nat.le_of_eq W102.size.symm)
    have Kp106 : Keep h0 h102 [] := Kp96.wr W102 (Or.inr sz98)
    show own_Go p e below s _ _ _ (T102.setTop (mkF m 89 #[.val (.int (0 : Int32)), .val (.ref b), .val (.int (1 : Int32)), .val (.int (1 : Int32)), .val (.ref x89), .val (.ref b), .val (.int (1 : Int32)), .val (.int (0 : Int32)), .val (.int x)] []))
    refine own_st (fun _ k => XS.aload X102.here hx rfl (hb hby own_d_jdk_42_method_46_code_89) rfl rfl k) ?_
    show own_Go p e below s _ _ _ (T102.setTop (mkF m 91 #[.val (.int (0 : Int32)), .val (.ref b), .val (.int (1 : Int32)), .val (.int (1 : Int32)), .val (.ref x89), .val (.ref b), .val (.int (1 : Int32)), .val (.int (0 : Int32)), .val (.int x)] [(.ref x89)]))
    refine own_st (fun _ k => XS.iloadN X102.here hx rfl (hb hby own_d_jdk_42_method_46_code_91) rfl k) ?_
    show own_Go p e below s _ _ _ (T102.setTop (mkF m 92 #[.val (.int (0 : Int32)), .val (.ref b), .val (.int (1 : Int32)), .val (.int (1 : Int32)), .val (.ref x89), .val (.ref b), .val (.int (1 : Int32)), .val (.int (0 : Int32)), .val (.int x)] [(.int (1 : Int32)), (.ref x89)]))
    refine own_st (fun _ k => XT.iincV X102.here hx rfl (1 : Int32) (hb hby own_d_jdk_42_method_46_code_92) (by decide) rfl (l' := #[.val (.int (0 : Int32)), .val (.ref b), .val (.int (1 : Int32)), .val (.int (2 : Int32)), .val (.ref x89), .val (.ref b), .val (.int (1 : Int32)), .val (.int (0 : Int32)), .val (.int x)]) rfl k) ?_
    show own_Go p e below s _ _ _ (T102.setTop (mkF m 95 #[.val (.int (0 : Int32)), .val (.ref b), .val (.int (1 : Int32)), .val (.int (2 : Int32)), .val (.ref x89), .val (.ref b), .val (.int (1 : Int32)), .val (.int (0 : Int32)), .val (.int x)] [(.int (1 : Int32)), (.ref x89)]))
    refine own_st (fun _ k => XT.sipushV X102.here hx rfl (128 : Int32) (hb hby own_d_jdk_42_method_46_code_95) (by decide) k) ?_
    show own_Go p e below s _ _ _ (T102.setTop (mkF m 98 #[.val (.int (0 : Int32)), .val (.ref b), .val (.int (1 : Int32)), .val (.int (2 : Int32)), .val (.ref x89), .val (.ref b), .val (.int (1 : Int32)), .val (.int (0 : Int32)), .val (.int x)] [(.int (128 : Int32)), (.int (1 : Int32)), (.ref x89)]))
    refine own_st (fun _ k => XS.iload X102.here hx rfl (hb hby own_d_jdk_42_method_46_code_98) rfl k) ?_
    show own_Go p e below s _ _ _ (T102.setTop (mkF m 100 #[.val (.int (0 : Int32)), .val (.ref b), .val (.int (1 : Int32)), .val (.int (2 : Int32)), .val (.ref x89), .val (.ref b), .val (.int (1 : Int32)), .val (.int (0 : Int32)), .val (.int x)] [(.int x), (.int (128 : Int32)), (.int (1 : Int32)), (.ref x89)]))
    refine own_st (fun _ k => XT.bipushV X102.here hx rfl (63 : Int32) (hb hby own_d_jdk_42_method_46_code_100) (by decide) k) ?_
    show own_Go p e below s _ _ _ (T102.setTop (mkF m 102 #[.val (.int (0 : Int32)), .val (.ref b), .val (.int (1 : Int32)), .val (.int (2 : Int32)), .val (.ref x89), .val (.ref b), .val (.int (1 : Int32)), .val (.int (0 : Int32)), .val (.int x)] [(.int (63 : Int32)), (.int x), (.int (128 : Int32)), (.int (1 : Int32)), (.ref x89)]))
    refine own_st (fun _ k => XS.iand X102.here hx rfl (hb hby own_d_jdk_42_method_46_code_102) rfl k) ?_
    show own_Go p e below s _ _ _ (T102.setTop (mkF m 103 #[.val (.int (0 : Int32)), .val (.ref b), .val (.int (1 : Int32)), .val (.int (2 : Int32)), .val (.ref x89), .val (.ref b), .val (.int (1 : Int32)), .val (.int (0 : Int32)), .val (.int x)] [(.int (x &&& (63 : Int32))), (.int (128 : Int32)), (.int (1 : Int32)), (.ref x89)]))
    refine own_st (fun _ k => XT.ior X102.here hx rfl (hb hby own_d_jdk_42_method_46_code_103) rfl k) ?_
    show own_Go p e below s _ _ _ (T102.setTop (mkF m 104 #[.val (.int (0 : Int32)), .val (.ref b), .val (.int (1 : Int32)), .val (.int (2 : Int32)), .val (.ref x89), .val (.ref b), .val (.int (1 : Int32)), .val (.int (0 : Int32)), .val (.int x)] [(.int ((128 : Int32) ||| (x &&& (63 : Int32)))), (.int (1 : Int32)), (.ref x89)]))
    refine own_st (fun _ k => XT.i2b X102.here hx rfl (hb hby own_d_jdk_42_method_46_code_104) rfl k) ?_
    show own_Go p e below s _ _ _ (T102.setTop (mkF m 105 #[.val (.int (0 : Int32)), .val (.ref b), .val (.int (1 : Int32)), .val (.int (2 : Int32)), .val (.ref x89), .val (.ref b), .val (.int (1 : Int32)), .val (.int (0 : Int32)), .val (.int x)] [(.int (((128 : Int32) ||| (x &&& (63 : Int32))).toInt8.toInt32)), (.int (1 : Int32)), (.ref x89)]))
    obtain ⟨cl107, Ar107, kc107, S107, Nn107, H107, G107⟩ := id F104
    have hin107 : ¬ ((1 : Int32) < 0 ∨ cl107.slots.size ≤ ((1 : Int32) : Int32).toNatClampNeg) := inb_of S107 (by decide)
    obtain ⟨T107, h107, X107, e107, W107, st107⟩ := stB X102 hx hZ e102 Ar107 (j := (1 : Int32)) hin107 (g := (mkF m 105 #[.val (.int (0 : Int32)), .val (.ref b), .val (.int (1 : Int32)), .val (.int (2 : Int32)), .val (.ref x89), .val (.ref b), .val (.int (1 : Int32)), .val (.int (0 : Int32)), .val (.int x)] [(.int (((128 : Int32) ||| (x &&& (63 : Int32))).toInt8.toInt32)), (.int (1 : Int32)), (.ref x89)])) rfl rfl (hb hby own_d_jdk_42_method_46_code_105)
    refine own_st st107 ?_
    have N108 := Fr.snoc X107 N103 g97
    have F109 : Arv Z h107 x89 x90 .byte (2 : Int32) [(.int (nar .byte (((192 : Int32) ||| ((x &&& (255 : Int32)) >>> ((6 : Int32) &&& 31))).toInt8.toInt32))), (.int (nar .byte (((128 : Int32) ||| (x &&& (63 : Int32))).toInt8.toInt32)))] (.int (0 : Int32)) := Arv.set Ar107 kc107 S107 Nn107 H107 G107 (fits_nar_byte _) W107 1 (by decide) (Nat.le_of_ble_eq_true rfl)
    have Zs110 : n0 ≤ h107.size := Nat.le_trans Zs105 (Nat.le_of_eq W107.size.symm)
    have Kp111 : Keep h0 h107 [] := Kp106.wr W107 (Or.inr sz98)
    show own_Go p e below s _ _ _ (T107.setTop (mkF m 106 #[.val (.int (0 : Int32)), .val (.ref b), .val (.int (1 : Int32)), .val (.int (2 : Int32)), .val (.ref x89), .val (.ref b), .val (.int (1 : Int32)), .val (.int (0 : Int32)), .val (.int x)] []))
    refine own_st (fun _ k => XS.goto X107.here hx rfl (pc0 := 106) (pc' := 118) rfl (hb hby own_d_jdk_42_method_46_code_106) (by decide) (by decide) k) ?_
    show own_Go p e below s _ _ _ (T107.setTop (mkF m 118 #[.val (.int (0 : Int32)), .val (.ref b), .val (.int (1 : Int32)), .val (.int (2 : Int32)), .val (.ref x89), .val (.ref b), .val (.int (1 : Int32)), .val (.int (0 : Int32)), .val (.int x)] []))
    refine own_st (fun _ k => XT.iincV X107.here hx rfl (1 : Int32) (hb hby own_d_jdk_42_method_46_code_118) (by decide) rfl (l' := #[.val (.int (0 : Int32)), .val (.ref b), .val (.int (1 : Int32)), .val (.int (2 : Int32)), .val (.ref x89), .val (.ref b), .val (.int (1 : Int32)), .val (.int (1 : Int32)), .val (.int x)]) rfl k) ?_
    show own_Go p e below s _ _ _ (T107.setTop (mkF m 121 #[.val (.int (0 : Int32)), .val (.ref b), .val (.int (1 : Int32)), .val (.int (2 : Int32)), .val (.ref x89), .val (.ref b), .val (.int (1 : Int32)), .val (.int (1 : Int32)), .val (.int x)] []))
    refine own_st (fun _ k => XS.goto X107.here hx rfl (pc0 := 121) (pc' := 49) rfl (hb hby own_d_jdk_42_method_46_code_121) (by decide) (by decide) k) ?_
    show own_Go p e below s _ _ _ (T107.setTop (mkF m 49 #[.val (.int (0 : Int32)), .val (.ref b), .val (.int (1 : Int32)), .val (.int (2 : Int32)), .val (.ref x89), .val (.ref b), .val (.int (1 : Int32)), .val (.int (1 : Int32)), .val (.int x)] []))
    refine own_st (fun _ k => XS.iload X107.here hx rfl (hb hby own_d_jdk_42_method_46_code_49) rfl k) ?_
    show own_Go p e below s _ _ _ (T107.setTop (mkF m 51 #[.val (.int (0 : Int32)), .val (.ref b), .val (.int (1 : Int32)), .val (.int (2 : Int32)), .val (.ref x89), .val (.ref b), .val (.int (1 : Int32)), .val (.int (1 : Int32)), .val (.int x)] [(.int (1 : Int32))]))
    refine own_st (fun _ k => XS.iload X107.here hx rfl (hb hby own_d_jdk_42_method_46_code_51) rfl k) ?_
    show own_Go p e below s _ _ _ (T107.setTop (mkF m 53 #[.val (.int (0 : Int32)), .val (.ref b), .val (.int (1 : Int32)), .val (.int (2 : Int32)), .val (.ref x89), .val (.ref b), .val (.int (1 : Int32)), .val (.int (1 : Int32)), .val (.int x)] [(.int (1 : Int32)), (.int (1 : Int32))]))
    refine own_st (fun _ k => XS.icmpYes X107.here hx rfl (pc0 := 53) (pc' := 124) rfl (hb hby own_d_jdk_42_method_46_code_53) rfl (XT.ii_ge_t (by decide)) (by decide) (by decide) k) ?_
    show own_Go p e below s _ _ _ (T107.setTop (mkF m 124 #[.val (.int (0 : Int32)), .val (.ref b), .val (.int (1 : Int32)), .val (.int (2 : Int32)), .val (.ref x89), .val (.ref b), .val (.int (1 : Int32)), .val (.int (1 : Int32)), .val (.int x)] []))
    refine own_st (fun _ k => XS.iloadN X107.here hx rfl (hb hby own_d_jdk_42_method_46_code_124) rfl k) ?_
    show own_Go p e below s _ _ _ (T107.setTop (mkF m 125 #[.val (.int (0 : Int32)), .val (.ref b), .val (.int (1 : Int32)), .val (.int (2 : Int32)), .val (.ref x89), .val (.ref b), .val (.int (1 : Int32)), .val (.int (1 : Int32)), .val (.int x)] [(.int (2 : Int32))]))
    refine own_st (fun _ k => XS.aload X107.here hx rfl (hb hby own_d_jdk_42_method_46_code_125) rfl rfl k) ?_
    show own_Go p e below s _ _ _ (T107.setTop (mkF m 127 #[.val (.int (0 : Int32)), .val (.ref b), .val (.int (1 : Int32)), .val (.int (2 : Int32)), .val (.ref x89), .val (.ref b), .val (.int (1 : Int32)), .val (.int (1 : Int32)), .val (.int x)] [(.ref x89), (.int (2 : Int32))]))
    obtain ⟨cl112, Ar112, -, S112, N112, -, -⟩ := id F109
    refine own_st (fun _ k => X107.arraylength hx (own_hp e107 Ar112.1) (State.isArrayOf_alike hZ.alike Ar112.2.1) (g := (mkF m 127 #[.val (.int (0 : Int32)), .val (.ref b), .val (.int (1 : Int32)), .val (.int (2 : Int32)), .val (.ref x89), .val (.ref b), .val (.int (1 : Int32)), .val (.int (1 : Int32)), .val (.int x)] [(.ref x89), (.int (2 : Int32))])) rfl rfl (hb hby own_d_jdk_42_method_46_code_127) _ k) ?_
    rw [len_of S112 N112]
    show own_Go p e below s _ _ _ (T107.setTop (mkF m 128 #[.val (.int (0 : Int32)), .val (.ref b), .val (.int (1 : Int32)), .val (.int (2 : Int32)), .val (.ref x89), .val (.ref b), .val (.int (1 : Int32)), .val (.int (1 : Int32)), .val (.int x)] [(.int (2 : Int32)), (.int (2 : Int32))]))
    refine own_st (fun _ k => XS.icmpNo X107.here hx rfl (hb hby own_d_jdk_42_method_46_code_128) rfl (XT.ii_ne_f rfl) k) ?_
    show own_Go p e below s _ _ _ (T107.setTop (mkF m 131 #[.val (.int (0 : Int32)), .val (.ref b), .val (.int (1 : Int32)), .val (.int (2 : Int32)), .val (.ref x89), .val (.ref b), .val (.int (1 : Int32)), .val (.int (1 : Int32)), .val (.int x)] []))
    refine own_st (fun _ k => XS.aload X107.here hx rfl (hb hby own_d_jdk_42_method_46_code_131) rfl rfl k) ?_
    show own_Go p e below s _ _ _ (T107.setTop (mkF m 133 #[.val (.int (0 : Int32)), .val (.ref b), .val (.int (1 : Int32)), .val (.int (2 : Int32)), .val (.ref x89), .val (.ref b), .val (.int (1 : Int32)), .val (.int (1 : Int32)), .val (.int x)] [(.ref x89)]))
    refine own_retA X107 hx hlk Bd.returns rfl (hb hby own_d_jdk_42_method_46_code_133) (by decide) (by decide) ?_
    rw [e107]
    exact ⟨x89, x90, (2 : Int32), [(.int (nar .byte (((192 : Int32) ||| ((x &&& (255 : Int32)) >>> ((6 : Int32) &&& 31))).toInt8.toInt32))), (.int (nar .byte (((128 : Int32) ||| (x &&& (63 : Int32))).toInt8.toInt32)))], N108, rfl, Kp111, F109, (by decide)⟩
  · skip
    show own_Go p e below s _ _ _ (s₁.setTop (mkF m 0 #[.val (.int (0 : Int32)), .val (.ref b), .val (.int (1 : Int32)), .unset, .unset, .unset, .unset, .unset, .unset] []))
    refine own_st (fun _ k => XS.iloadN X0.here hx rfl (hb hby own_d_jdk_42_method_46_code_0) rfl k) ?_
    show own_Go p e below s _ _ _ (s₁.setTop (mkF m 1 #[.val (.int (0 : Int32)), .val (.ref b), .val (.int (1 : Int32)), .unset, .unset, .unset, .unset, .unset, .unset] [(.int (0 : Int32))]))
    refine own_st (fun _ k => XT.iconstV X0.here hx rfl (1 : Int32) (hb hby own_d_jdk_42_method_46_code_1) (by decide) k) ?_
    show own_Go p e below s _ _ _ (s₁.setTop (mkF m 2 #[.val (.int (0 : Int32)), .val (.ref b), .val (.int (1 : Int32)), .unset, .unset, .unset, .unset, .unset, .unset] [(.int (1 : Int32)), (.int (0 : Int32))]))
    refine own_st (fun _ k => XS.icmpYes X0.here hx rfl (pc0 := 2) (pc' := 11) rfl (hb hby own_d_jdk_42_method_46_code_2) rfl (XT.ii_ne_t (by decide)) (by decide) (by decide) k) ?_
    show own_Go p e below s _ _ _ (s₁.setTop (mkF m 11 #[.val (.int (0 : Int32)), .val (.ref b), .val (.int (1 : Int32)), .unset, .unset, .unset, .unset, .unset, .unset] []))
    refine own_st (fun _ k => XS.aloadN X0.here hx rfl (hb hby own_d_jdk_42_method_46_code_11) rfl rfl k) ?_
    show own_Go p e below s _ _ _ (s₁.setTop (mkF m 12 #[.val (.int (0 : Int32)), .val (.ref b), .val (.int (1 : Int32)), .unset, .unset, .unset, .unset, .unset, .unset] [(.ref b)]))
    refine own_st (fun _ k => XT.iconstV X0.here hx rfl (0 : Int32) (hb hby own_d_jdk_42_method_46_code_12) (by decide) k) ?_
    show own_Go p e below s _ _ _ (s₁.setTop (mkF m 13 #[.val (.int (0 : Int32)), .val (.ref b), .val (.int (1 : Int32)), .unset, .unset, .unset, .unset, .unset, .unset] [(.int (0 : Int32)), (.ref b)]))
    refine own_st (fun _ k => XS.aloadN X0.here hx rfl (hb hby own_d_jdk_42_method_46_code_13) rfl rfl k) ?_
    show own_Go p e below s _ _ _ (s₁.setTop (mkF m 14 #[.val (.int (0 : Int32)), .val (.ref b), .val (.int (1 : Int32)), .unset, .unset, .unset, .unset, .unset, .unset] [(.ref b), (.int (0 : Int32)), (.ref b)]))
    obtain ⟨cl113, Ar113, -, S113, N113, -, -⟩ := id V1
    refine own_st (fun _ k => X0.arraylength hx (own_hp e0 Ar113.1) (State.isArrayOf_alike hZ.alike Ar113.2.1) (g := (mkF m 14 #[.val (.int (0 : Int32)), .val (.ref b), .val (.int (1 : Int32)), .unset, .unset, .unset, .unset, .unset, .unset] [(.ref b), (.int (0 : Int32)), (.ref b)])) rfl rfl (hb hby own_d_jdk_42_method_46_code_14) _ k) ?_
    rw [len_of S113 N113]
    show own_Go p e below s _ _ _ (s₁.setTop (mkF m 15 #[.val (.int (0 : Int32)), .val (.ref b), .val (.int (1 : Int32)), .unset, .unset, .unset, .unset, .unset, .unset] [(.int (1 : Int32)), (.int (0 : Int32)), (.ref b)]))
    obtain ⟨_, _, ⟨T114, L114, k114, n114⟩, -, X114, ⟨Lc114, hQ114, l114, y114, z114⟩, st114⟩ := Jvm.LawKit.callS X0 hx (y := (⟨"java/lang/StringCoding", "hasNegatives", "([BII)Z"⟩ : MethodName)) hown (mvT hZ (hw _ (List.mem_of_getElem? (i := 65) rfl))) (mvT hZ (hw _ (List.mem_of_getElem? (i := 66) rfl))) (mvT hZ (hw _ (List.mem_of_getElem? (i := 67) rfl))) (mvT hZ (hw _ (List.mem_of_getElem? (i := 68) rfl))) (by decide) (backOf (W := 0) (own_rm_hn l Z a0 hw [] b kk x h0 n0 Z0 V1) hZ (hw _ (List.mem_of_getElem? (i := 68) rfl)) (hw _ (List.mem_of_getElem? (i := 67) rfl)) (by decide) (by decide)) (g := (mkF m 15 #[.val (.int (0 : Int32)), .val (.ref b), .val (.int (1 : Int32)), .unset, .unset, .unset, .unset, .unset, .unset] [(.int (1 : Int32)), (.int (0 : Int32)), (.ref b)])) rfl (by rw [hml]; rfl) (argsL := [(.ref b), (.int (0 : Int32)), (.int (1 : Int32))]) (rest := []) (lenOf own_pd5 rfl) rfl (by show 2 * 0 + _ ≤ _; exact Nat.le_of_eq rfl) (hb hby own_d_jdk_42_method_46_code_15) (fun _ _ => ⟨rfl, e0, (by decide : 0 + 0 ≤ _), (by decide : 0 + 0 ≤ _)⟩)
    dsimp only [Pt.U, Pt.locs, Pt.cells, Pt.slots] at X114 l114 y114 z114 st114 hQ114
    subst l114 y114 z114
    obtain ⟨N114q, rfl, eh114⟩ := hQ114
    have N115 := Fr.app N0 N114q
    refine own_st st114 ?_
    show own_Go p e below s _ _ _ (T114.setTop (mkF m 18 #[.val (.int (0 : Int32)), .val (.ref b), .val (.int (1 : Int32)), .unset, .unset, .unset, .unset, .unset, .unset] [(.int (if x < 0 then (1 : Int32) else 0))]))
    refine own_st (fun _ k => XS.ifNo X114.here hx rfl (hb hby own_d_jdk_42_method_46_code_18) rfl (XT.i0_ne_f (by simp [hx0])) k) ?_
    show own_Go p e below s _ _ _ (T114.setTop (mkF m 21 #[.val (.int (0 : Int32)), .val (.ref b), .val (.int (1 : Int32)), .unset, .unset, .unset, .unset, .unset, .unset] []))
    refine own_st (fun _ k => XS.aloadN X114.here hx rfl (hb hby own_d_jdk_42_method_46_code_21) rfl rfl k) ?_
    show own_Go p e below s _ _ _ (T114.setTop (mkF m 22 #[.val (.int (0 : Int32)), .val (.ref b), .val (.int (1 : Int32)), .unset, .unset, .unset, .unset, .unset, .unset] [(.ref b)]))
    obtain ⟨T116, h116, X116, e116, E116, A116, Ea116, st116⟩ := cloneH X114 hx hZ hown (hw _ (List.mem_of_getElem? (i := 72) rfl)) (hw _ (List.mem_of_getElem? (i := 73) rfl)) (hw _ (List.mem_of_getElem? (i := 77) rfl)) (hw _ (List.mem_of_getElem? (i := 75) rfl)) (hw _ (List.mem_of_getElem? (i := 76) rfl)) (hw _ (List.mem_of_getElem? (i := 78) rfl)) eh114 (hs := []) V1 E1 (g := (mkF m 22 #[.val (.int (0 : Int32)), .val (.ref b), .val (.int (1 : Int32)), .unset, .unset, .unset, .unset, .unset, .unset] [(.ref b)])) rfl (by rw [hml]; rfl) rfl (hb hby own_d_jdk_42_method_46_code_22) (by decide) (W := 0) (cap := 1) (by show 2 * 0 + _ ≤ _; exact Nat.le_of_eq rfl) (by decide) (by decide) (by decide) (by decide)
    obtain ⟨b116, g116⟩ : ∃ z, z = h0.size := ⟨_, rfl⟩
    rw [← g116] at A116 Ea116 st116
    refine own_st st116 ?_
    have Zs117 : n0 ≤ h116.size := Nat.le_trans Z0 E116.1
    have Kp118 : Keep h0 h116 [] := Kp0.ext E116
    have g119 : n0 ≤ b116 := Nat.le_trans Z0 (Nat.le_of_eq g116.symm)
    have sz120 : h0.size ≤ b116 := Nat.le_trans Kp0.1 (Nat.le_of_eq g116.symm)
    show own_Go p e below s _ _ _ (T116.setTop (mkF m 25 #[.val (.int (0 : Int32)), .val (.ref b), .val (.int (1 : Int32)), .unset, .unset, .unset, .unset, .unset, .unset] [(.ref b116)]))
    obtain ⟨T121, X121, e121, st121⟩ := castY X116 hx hZ hown (hw _ (List.mem_of_getElem? (i := 79) rfl)) e116 (Ins.self Ea116) (g := (mkF m 25 #[.val (.int (0 : Int32)), .val (.ref b), .val (.int (1 : Int32)), .unset, .unset, .unset, .unset, .unset, .unset] [(.ref b116)])) rfl rfl (hb hby own_d_jdk_42_method_46_code_25)
    refine own_st st121 ?_
    show own_Go p e below s _ _ _ (T121.setTop (mkF m 28 #[.val (.int (0 : Int32)), .val (.ref b), .val (.int (1 : Int32)), .unset, .unset, .unset, .unset, .unset, .unset] [(.ref b116)]))
    refine own_retA X121 hx hlk Bd.returns rfl (hb hby own_d_jdk_42_method_46_code_28) (by decide) (by decide) ?_
    rw [e121]
    exact ⟨b116, kk, (1 : Int32), [(.int x)], N115, rfl, Kp118, A116, (by decide)⟩
theorem own_d_jdk_42_method_18_code_0 : decode jdk_42_method_18_code 0 = .ok (.aload_n 0, 1) := by decide +kernel
theorem own_d_jdk_42_method_18_code_1 : decode jdk_42_method_18_code 1 = .ok (.getstatic 86, 3) := by decide +kernel
theorem own_d_jdk_42_method_18_code_4 : decode jdk_42_method_18_code 4 = .ok (.if_acmp .ne 10, 3) := by decide +kernel
theorem own_d_jdk_42_method_18_code_7 : decode jdk_42_method_18_code 7 = .ok (.iload_n 1, 1) := by decide +kernel
theorem own_d_jdk_42_method_18_code_8 : decode jdk_42_method_18_code 8 = .ok (.aload_n 2, 1) := by decide +kernel
theorem own_d_jdk_42_method_18_code_9 : decode jdk_42_method_18_code 9 = .ok (.iconst 1, 1) := by decide +kernel
theorem own_d_jdk_42_method_18_code_10 : decode jdk_42_method_18_code 10 = .ok (.invokestatic 252, 3) := by decide +kernel
theorem own_d_jdk_42_method_18_code_13 : decode jdk_42_method_18_code 13 = .ok (.areturn, 1) := by decide +kernel
theorem own_d_jdk_42_method_18_code_14 : decode jdk_42_method_18_code 14 = .ok (.aload_n 0, 1) := by decide +kernel
theorem own_d_jdk_42_method_18_code_15 : decode jdk_42_method_18_code 15 = .ok (.getstatic 116, 3) := by decide +kernel
theorem own_d_jdk_42_method_18_code_18 : decode jdk_42_method_18_code 18 = .ok (.if_acmp .ne 9, 3) := by decide +kernel
theorem own_d_jdk_42_method_18_code_21 : decode jdk_42_method_18_code 21 = .ok (.iload_n 1, 1) := by decide +kernel
theorem own_d_jdk_42_method_18_code_22 : decode jdk_42_method_18_code 22 = .ok (.aload_n 2, 1) := by decide +kernel
theorem own_d_jdk_42_method_18_code_23 : decode jdk_42_method_18_code 23 = .ok (.invokestatic 256, 3) := by decide +kernel
theorem own_d_jdk_42_method_18_code_26 : decode jdk_42_method_18_code 26 = .ok (.areturn, 1) := by decide +kernel
theorem own_d_jdk_42_method_18_code_27 : decode jdk_42_method_18_code 27 = .ok (.aload_n 0, 1) := by decide +kernel
theorem own_d_jdk_42_method_18_code_28 : decode jdk_42_method_18_code 28 = .ok (.getstatic 123, 3) := by decide +kernel
theorem own_d_jdk_42_method_18_code_31 : decode jdk_42_method_18_code 31 = .ok (.if_acmp .ne 9, 3) := by decide +kernel
theorem own_d_jdk_42_method_18_code_34 : decode jdk_42_method_18_code 34 = .ok (.iload_n 1, 1) := by decide +kernel
theorem own_d_jdk_42_method_18_code_35 : decode jdk_42_method_18_code 35 = .ok (.aload_n 2, 1) := by decide +kernel
theorem own_d_jdk_42_method_18_code_36 : decode jdk_42_method_18_code 36 = .ok (.invokestatic 260, 3) := by decide +kernel
theorem own_d_jdk_42_method_18_code_39 : decode jdk_42_method_18_code 39 = .ok (.areturn, 1) := by decide +kernel
theorem own_d_jdk_42_method_18_code_40 : decode jdk_42_method_18_code 40 = .ok (.aload_n 0, 1) := by decide +kernel
theorem own_d_jdk_42_method_18_code_41 : decode jdk_42_method_18_code 41 = .ok (.iload_n 1, 1) := by decide +kernel
theorem own_d_jdk_42_method_18_code_42 : decode jdk_42_method_18_code 42 = .ok (.aload_n 2, 1) := by decide +kernel
theorem own_d_jdk_42_method_18_code_43 : decode jdk_42_method_18_code 43 = .ok (.iconst 1, 1) := by decide +kernel
theorem own_d_jdk_42_method_18_code_44 : decode jdk_42_method_18_code 44 = .ok (.invokestatic 263, 3) := by decide +kernel
theorem own_d_jdk_42_method_18_code_47 : decode jdk_42_method_18_code 47 = .ok (.areturn, 1) := by decide +kernel
theorem own_pn12 : plainFor (⟨"java/lang/String", "encode", "(Ljava/nio/charset/Charset;B[B)[B"⟩ : MethodName) = true := by decide +kernel
theorem own_pd7 : parseMethodDescriptor "(B[BZ)[B" = some ⟨[.byte, (.array .byte), .boolean], some (.array .byte)⟩ := by decide +kernel
def own_rm_enc_Q (Z : State) (a_utf : Addr) (b : Addr) (kk : ClassId) (x : Int32) (h0 : Heap) (n0 : Nat) (v : Option Value) (h : Heap) (L : List Loc) : Prop := ∃ r2 : Addr, ∃ k2 : ClassId, ∃ z2 : Int32, ∃ vs2 : List Value, Fr n0 L ∧ v = some (.ref r2) ∧ Keep h0 h [] ∧ Arv Z h r2 k2 .byte z2 vs2 (.int (0 : Int32)) ∧ ¬ (32767 : Int32) < z2
theorem own_rm_enc_ef (m : MethodId) (a_utf : Addr) (b : Addr) : entryFrame m #[(.ref a_utf), (.int (0 : Int32)), (.ref b)] 3 = mkF m 0 #[.val (.ref a_utf), .val (.int (0 : Int32)), .val (.ref b)] [] := by first | (simp [entryFrame, mkF, argsToLocals, Value.category]; done) | rfl
set_option maxRecDepth 65536 in
set_option maxHeartbeats 40000000 in
theorem own_rm_enc (l : Launch) (Z : State) (a0 : Array Value) (hw : ∀ d ∈ tables_1, d.before a0 Z = true) (ws : List Jvm.Cond) (a_utf : Addr) (b : Addr) (kk : ClassId) (x : Int32) (h0 : Heap) (n0 : Nat) (Z0 : n0 ≤ h0.size) (O0 : Old Z n0 h0) (S_u2 : Sta Z Z.heap "sun/nio/cs/UTF_8" "INSTANCE" "Lsun/nio/cs/UTF_8;" (.ref a_utf)) (V1 : Arv Z h0 b kk .byte (1 : Int32) [(.int x)] (.int (0 : Int32))) (E1 : Exa Z h0 b "[B") :
    MetFree l (⟨"java/lang/String", "encode", "(Ljava/nio/charset/Charset;B[B)[B"⟩ : MethodName) (head1 (Jvm.Cond.code (⟨"java/lang/String", "encode", "(Ljava/nio/charset/Charset;B[B)[B"⟩ : MethodName) jdk_42_method_18_code 3 (some (.array .byte)) :: ws) ({ frames := 3, cells := 1, slots := 2, locals := 50 } : Room)) (fun a U => a = #[(.ref a_utf), (.int (0 : Int32)), (.ref b)] ∧ Z.Warmed39 U.vm ∧ U.heap = h0) (fun _ _ _ _ _ => True) (fun _ U o U' => ∃ v L, o = .returned v ∧ own_rm_enc_Q Z a_utf b kk x h0 n0 v U'.heap L ∧ FrameEnd U o U' L ({ frames := 3, cells := 1, slots := 2, locals := 50 } : Room).cells ({ frames := 3, cells := 1, slots := 2, locals := 50 } : Room).slots) := by
  refine MetFree.of_bodySF own_pn12 hisR ?_
  intro p e s m args below meth c s₁ Bd hml0 hP hK
  obtain ⟨rfl, hZ, hh⟩ := hP
  have hx := Bd.exec
  have hby := Bd.bytes
  have hml : c.maxLocals = 3 := hml0
  have hlk := BodyLoose.notSynchronized Bd
  have hown : s.vm.findClass "java/lang/String" = some m.cls := findClass_of_methodNamed Bd.named
  have hnm := (name_of_methodNamed Bd.named Bd.method).1
  have X0 : Stand p l e ({ frames := 3, cells := 1, slots := 2, locals := 50 } : Room) s m #[(.ref a_utf), (.int (0 : Int32)), (.ref b)] below meth c s₁ [] 0 0 := Stand.of_body Bd
  have e0 : s₁.heap = h0 := by rw [← hh, Bd.state]; rfl
  have N0 := Fr.nil n0
  have Kp0 : Keep h0 h0 [] := Keep.refl _ _
  show own_Go p e below s (own_rm_enc_Q Z a_utf b kk x h0 n0) ({ frames := 3, cells := 1, slots := 2, locals := 50 } : Room).cells ({ frames := 3, cells := 1, slots := 2, locals := 50 } : Room).slots (s₁.setTop (entryFrame m #[(.ref a_utf), (.int (0 : Int32)), (.ref b)] 3))
  rw [own_rm_enc_ef]
  show own_Go p e below s _ _ _ (s₁.setTop (mkF m 0 #[.val (.ref a_utf), .val (.int (0 : Int32)), .val (.ref b)] []))
  refine own_st (fun _ k => XS.aloadN X0.here hx rfl (hb hby own_d_jdk_42_method_18_code_0) rfl rfl k) ?_
  show own_Go p e below s _ _ _ (s₁.setTop (mkF m 1 #[.val (.ref a_utf), .val (.int (0 : Int32)), .val (.ref b)] [(.ref a_utf)]))
  have F122 : Sta Z h0 "sun/nio/cs/UTF_8" "INSTANCE" "Lsun/nio/cs/UTF_8;" (.ref a_utf) := S_u2.ext O0.2
  obtain ⟨T123, X123, e123, st123⟩ := getS2 X0 hx hZ hown (host := "") (Or.inl (hw _ (List.mem_of_getElem? (i := 60) rfl))) Via.refl e0 F122 (g := (mkF m 1 #[.val (.ref a_utf), .val (.int (0 : Int32)), .val (.ref b)] [(.ref a_utf)])) rfl (hb hby own_d_jdk_42_method_18_code_1)
  refine own_st st123 ?_
  show own_Go p e below s _ _ _ (T123.setTop (mkF m 4 #[.val (.ref a_utf), .val (.int (0 : Int32)), .val (.ref b)] [(.ref a_utf), (.ref a_utf)]))
  refine own_st (fun _ k => XT.acmpNo X123.here hx rfl (hb hby own_d_jdk_42_method_18_code_4) rfl rfl rfl (XT.aa_ne_f (congrArg Value.ref rfl)) k) ?_
  show own_Go p e below s _ _ _ (T123.setTop (mkF m 7 #[.val (.ref a_utf), .val (.int (0 : Int32)), .val (.ref b)] []))
  refine own_st (fun _ k => XS.iloadN X123.here hx rfl (hb hby own_d_jdk_42_method_18_code_7) rfl k) ?_
  show own_Go p e below s _ _ _ (T123.setTop (mkF m 8 #[.val (.ref a_utf), .val (.int (0 : Int32)), .val (.ref b)] [(.int (0 : Int32))]))
  refine own_st (fun _ k => XS.aloadN X123.here hx rfl (hb hby own_d_jdk_42_method_18_code_8) rfl rfl k) ?_
  show own_Go p e below s _ _ _ (T123.setTop (mkF m 9 #[.val (.ref a_utf), .val (.int (0 : Int32)), .val (.ref b)] [(.ref b), (.int (0 : Int32))]))
  refine own_st (fun _ k => XT.iconstV X123.here hx rfl (1 : Int32) (hb hby own_d_jdk_42_method_18_code_9) (by decide) k) ?_
  show own_Go p e below s _ _ _ (T123.setTop (mkF m 10 #[.val (.ref a_utf), .val (.int (0 : Int32)), .val (.ref b)] [(.int (1 : Int32)), (.ref b), (.int (0 : Int32))]))
  obtain ⟨_, _, ⟨T124, L124, k124, n124⟩, -, X124, ⟨Lc124, hQ124, l124, y124, z124⟩, st124⟩ := Jvm.LawKit.callS X123 hx (y := (⟨"java/lang/String", "encodeUTF8", "(B[BZ)[B"⟩ : MethodName)) hown (mvT hZ (hw _ (List.mem_of_getElem? (i := 62) rfl))) (mvT hZ (hw _ (List.mem_of_getElem? (i := 63) rfl))) (mvT hZ (hw _ (List.mem_of_getElem? (i := 7) rfl))) (mvT hZ (hw _ (List.mem_of_getElem? (i := 64) rfl))) (by decide) (backOf (W := 0) (own_rm_eu8 l Z a0 hw [] b kk x h0 n0 Z0 V1 E1) hZ (hw _ (List.mem_of_getElem? (i := 64) rfl)) (hw _ (List.mem_of_getElem? (i := 7) rfl)) (by decide) (by decide)) (g := (mkF m 10 #[.val (.ref a_utf), .val (.int (0 : Int32)), .val (.ref b)] [(.int (1 : Int32)), (.ref b), (.int (0 : Int32))])) rfl (by rw [hml]; rfl) (argsL := [(.int (0 : Int32)), (.ref b), (.int (1 : Int32))]) (rest := []) (lenOf own_pd7 rfl) rfl (by show 2 * 0 + _ ≤ _; exact Nat.le_of_eq rfl) (hb hby own_d_jdk_42_method_18_code_10) (fun _ _ => ⟨rfl, e123, (by decide : 0 + 1 ≤ _), (by decide : 0 + 2 ≤ _)⟩)
  dsimp only [Pt.U, Pt.locs, Pt.cells, Pt.slots] at X124 l124 y124 z124 st124 hQ124
  subst l124 y124 z124
  obtain ⟨x125, x126, x127, x128, N124q, rfl, K124, q129, q130⟩ := hQ124
  have N131 := Fr.app N0 N124q
  refine own_st st124 ?_
  have Zs132 : n0 ≤ T124.heap.size := Nat.le_trans Z0 K124.1
  have Kp133 : Keep h0 T124.heap [] := Kp0.trans K124 all0
  show own_Go p e below s _ _ _ (T124.setTop (mkF m 13 #[.val (.ref a_utf), .val (.int (0 : Int32)), .val (.ref b)] [(.ref x125)]))
  refine own_retA X124 hx hlk Bd.returns rfl (hb hby own_d_jdk_42_method_18_code_13) (by decide) (by decide) ?_
  skip
  exact ⟨x125, x126, x127, x128, N131, rfl, Kp133, q129, q130⟩
theorem own_d_jdk_42_method_64_code_0 : decode jdk_42_method_64_code 0 = .ok (.aload_n 1, 1) := by decide +kernel
theorem own_d_jdk_42_method_64_code_1 : decode jdk_42_method_64_code 1 = .ok (.ifnonnull 11, 3) := by decide +kernel
theorem own_d_jdk_42_method_64_code_4 : decode jdk_42_method_64_code 4 = .ok (.new 538, 3) := by decide +kernel
theorem own_d_jdk_42_method_64_code_7 : decode jdk_42_method_64_code 7 = .ok (.dup, 1) := by decide +kernel
theorem own_d_jdk_42_method_64_code_8 : decode jdk_42_method_64_code 8 = .ok (.invokespecial 540, 3) := by decide +kernel
theorem own_d_jdk_42_method_64_code_11 : decode jdk_42_method_64_code 11 = .ok (.athrow, 1) := by decide +kernel
theorem own_d_jdk_42_method_64_code_12 : decode jdk_42_method_64_code 12 = .ok (.aload_n 1, 1) := by decide +kernel
theorem own_d_jdk_42_method_64_code_13 : decode jdk_42_method_64_code 13 = .ok (.aload_n 0, 1) := by decide +kernel
theorem own_d_jdk_42_method_64_code_14 : decode jdk_42_method_64_code 14 = .ok (.invokevirtual 335, 3) := by decide +kernel
theorem own_d_jdk_42_method_64_code_17 : decode jdk_42_method_64_code 17 = .ok (.aload_n 0, 1) := by decide +kernel
theorem own_d_jdk_42_method_64_code_18 : decode jdk_42_method_64_code 18 = .ok (.getfield 9, 3) := by decide +kernel
theorem own_d_jdk_42_method_64_code_21 : decode jdk_42_method_64_code 21 = .ok (.invokestatic 535, 3) := by decide +kernel
theorem own_d_jdk_42_method_64_code_24 : decode jdk_42_method_64_code 24 = .ok (.areturn, 1) := by decide +kernel
theorem own_pn13 : plainFor (⟨"java/lang/String", "getBytes", "(Ljava/nio/charset/Charset;)[B"⟩ : MethodName) = true := by decide +kernel
theorem own_pd8 : parseMethodDescriptor "()B" = some ⟨[], some .byte⟩ := by decide +kernel
theorem own_pd9 : parseMethodDescriptor "(Ljava/nio/charset/Charset;B[B)[B" = some ⟨[(.object "java/nio/charset/Charset"), .byte, (.array .byte)], some (.array .byte)⟩ := by decide +kernel
def own_rm_gb_Q (Z : State) (r : Addr) (a_utf : Addr) (a_cs : Int32) (b : Addr) (kk : ClassId) (x : Int32) (h0 : Heap) (n0 : Nat) (v : Option Value) (h : Heap) (L : List Loc) : Prop := ∃ r2 : Addr, ∃ k2 : ClassId, ∃ z2 : Int32, ∃ vs2 : List Value, Fr n0 L ∧ v = some (.ref r2) ∧ Keep h0 h [] ∧ Arv Z h r2 k2 .byte z2 vs2 (.int (0 : Int32)) ∧ ¬ (32767 : Int32) < z2
theorem own_rm_gb_ef (m : MethodId) (r : Addr) (a_utf : Addr) : entryFrame m #[(.ref r), (.ref a_utf)] 2 = mkF m 0 #[.val (.ref r), .val (.ref a_utf)] [] := by first | (simp [entryFrame, mkF, argsToLocals, Value.category]; done) | rfl
set_option maxRecDepth 65536 in
set_option maxHeartbeats 40000000 in
theorem own_rm_gb (l : Launch) (Z : State) (a0 : Array Value) (hw : ∀ d ∈ tables_1, d.before a0 Z = true) (ws : List Jvm.Cond) (r : Addr) (a_utf : Addr) (a_cs : Int32) (b : Addr) (kk : ClassId) (x : Int32) (h0 : Heap) (n0 : Nat) (Z0 : n0 ≤ h0.size) (O0 : Old Z n0 h0) (S_u2 : Sta Z Z.heap "sun/nio/cs/UTF_8" "INSTANCE" "Lsun/nio/cs/UTF_8;" (.ref a_utf)) (S_cs : Sta Z Z.heap "java/lang/String" "COMPACT_STRINGS" "Z" (.int a_cs)) (h_cs : ¬ a_cs = 0) (F1 : Fld Z h0 r "java/lang/String" "value" "[B" (.ref b)) (F2 : Fld Z h0 r "java/lang/String" "coder" "B" (.int (0 : Int32))) (V1 : Arv Z h0 b kk .byte (1 : Int32) [(.int x)] (.int (0 : Int32))) (E1 : Exa Z h0 b "[B") (E2 : Exa Z h0 r "java/lang/String") :
    MetFree l (⟨"java/lang/String", "getBytes", "(Ljava/nio/charset/Charset;)[B"⟩ : MethodName) (head1 (Jvm.Cond.code (⟨"java/lang/String", "getBytes", "(Ljava/nio/charset/Charset;)[B"⟩ : MethodName) jdk_42_method_64_code 2 (some (.array .byte)) :: ws) ({ frames := 4, cells := 1, slots := 2, locals := 64 } : Room)) (fun a U => a = #[(.ref r), (.ref a_utf)] ∧ Z.Warmed39 U.vm ∧ U.heap = h0) (fun _ _ _ _ _ => True) (fun _ U o U' => ∃ v L, o = .returned v ∧ own_rm_gb_Q Z r a_utf a_cs b kk x h0 n0 v U'.heap L ∧ FrameEnd U o U' L ({ frames := 4, cells := 1, slots := 2, locals := 64 } : Room).cells ({ frames := 4, cells := 1, slots := 2, locals := 64 } : Room).slots) := by
  refine MetFree.of_bodySF own_pn13 hisR ?_
  intro p e s m args below meth c s₁ Bd hml0 hP hK
  obtain ⟨rfl, hZ, hh⟩ := hP
  have hx := Bd.exec
  have hby := Bd.bytes
  have hml : c.maxLocals = 2 := hml0
  have hlk := BodyLoose.notSynchronized Bd
  have hown : s.vm.findClass "java/lang/String" = some m.cls := findClass_of_methodNamed Bd.named
  have hnm := (name_of_methodNamed Bd.named Bd.method).1
  have X0 : Stand p l e ({ frames := 4, cells := 1, slots := 2, locals := 64 } : Room) s m #[(.ref r), (.ref a_utf)] below meth c s₁ [] 0 0 := Stand.of_body Bd
  have e0 : s₁.heap = h0 := by rw [← hh, Bd.state]; rfl
  have N0 := Fr.nil n0
  have Kp0 : Keep h0 h0 [] := Keep.refl _ _
  show own_Go p e below s (own_rm_gb_Q Z r a_utf a_cs b kk x h0 n0) ({ frames := 4, cells := 1, slots := 2, locals := 64 } : Room).cells ({ frames := 4, cells := 1, slots := 2, locals := 64 } : Room).slots (s₁.setTop (entryFrame m #[(.ref r), (.ref a_utf)] 2))
  rw [own_rm_gb_ef]
  show own_Go p e below s _ _ _ (s₁.setTop (mkF m 0 #[.val (.ref r), .val (.ref a_utf)] []))
  refine own_st (fun _ k => XS.aloadN X0.here hx rfl (hb hby own_d_jdk_42_method_64_code_0) rfl rfl k) ?_
  show own_Go p e below s _ _ _ (s₁.setTop (mkF m 1 #[.val (.ref r), .val (.ref a_utf)] [(.ref a_utf)]))
  refine own_st (fun _ k => XT.ifnonnullYes X0.here hx rfl (pc0 := 1) (pc' := 12) rfl (hb hby own_d_jdk_42_method_64_code_1) rfl (by decide) (by decide) k) ?_
  show own_Go p e below s _ _ _ (s₁.setTop (mkF m 12 #[.val (.ref r), .val (.ref a_utf)] []))
  refine own_st (fun _ k => XS.aloadN X0.here hx rfl (hb hby own_d_jdk_42_method_64_code_12) rfl rfl k) ?_
  show own_Go p e below s _ _ _ (s₁.setTop (mkF m 13 #[.val (.ref r), .val (.ref a_utf)] [(.ref a_utf)]))
  refine own_st (fun _ k => XS.aloadN X0.here hx rfl (hb hby own_d_jdk_42_method_64_code_13) rfl rfl k) ?_
  show own_Go p e below s _ _ _ (s₁.setTop (mkF m 14 #[.val (.ref r), .val (.ref a_utf)] [(.ref r), (.ref a_utf)]))
  obtain ⟨cq134, kq134, q134a, q134b, q134c⟩ := isOf hZ e0 E2
  obtain ⟨_, _, ⟨T134, L134, k134, n134⟩, -, X134, ⟨Lc134, hQ134, l134, y134, z134⟩, st134⟩ := X0.virtualBack hx (y := (⟨"java/lang/String", "coder", "()B"⟩ : MethodName)) (z := (⟨"java/lang/String", "coder", "()B"⟩ : MethodName)) hown (mvT hZ (hw _ (List.mem_of_getElem? (i := 52) rfl))) (mvT hZ (hw _ (List.mem_of_getElem? (i := 53) rfl))) (notFace_of_selects (args := #[]) (mvT hZ (hw _ (List.mem_of_getElem? (i := 55) rfl)))) (mvT hZ (hw _ (List.mem_of_getElem? (i := 55) rfl))) (mvT hZ (hw _ (List.mem_of_getElem? (i := 54) rfl))) (by decide) (backOf (W := 1) (own_rm_coder l Z a0 hw [] r a_cs h0 n0 Z0 O0 S_cs h_cs F2) hZ (hw _ (List.mem_of_getElem? (i := 56) rfl)) (hw _ (List.mem_of_getElem? (i := 7) rfl)) (by decide) (by decide)) q134a q134c (g := (mkF m 14 #[.val (.ref r), .val (.ref a_utf)] [(.ref r), (.ref a_utf)])) rfl (by rw [hml]; rfl) (Steps.refl _) (argsL := []) (rest := [(.ref a_utf)]) (lenOf own_pd8 rfl) rfl (by show 2 * 0 + _ ≤ _; exact Nat.le_of_eq rfl) (hb hby own_d_jdk_42_method_64_code_14) (fun _ _ => ⟨rfl, e0, (by decide : 0 + 0 ≤ _), (by decide : 0 + 0 ≤ _)⟩)
  dsimp only [Pt.U, Pt.locs, Pt.cells, Pt.slots] at X134 l134 y134 z134 st134 hQ134
  subst l134 y134 z134
  obtain ⟨N134q, rfl, eh134⟩ := hQ134
  have N135 := Fr.app N0 N134q
  refine own_tr st134 ?_
  show own_Go p e below s _ _ _ (T134.setTop (mkF m 17 #[.val (.ref r), .val (.ref a_utf)] [(.int (0 : Int32)), (.ref a_utf)]))
  refine own_st (fun _ k => XS.aloadN X134.here hx rfl (hb hby own_d_jdk_42_method_64_code_17) rfl rfl k) ?_
  show own_Go p e below s _ _ _ (T134.setTop (mkF m 18 #[.val (.ref r), .val (.ref a_utf)] [(.ref r), (.int (0 : Int32)), (.ref a_utf)]))
  obtain ⟨T136, X136, e136, st136⟩ := getF X134 hx hZ hown (host := "") (Or.inl (hw _ (List.mem_of_getElem? (i := 27) rfl))) Via.refl eh134 F1 (g := (mkF m 18 #[.val (.ref r), .val (.ref a_utf)] [(.ref r), (.int (0 : Int32)), (.ref a_utf)])) rfl rfl (hb hby own_d_jdk_42_method_64_code_18)
  refine own_st st136 ?_
  show own_Go p e below s _ _ _ (T136.setTop (mkF m 21 #[.val (.ref r), .val (.ref a_utf)] [(.ref b), (.int (0 : Int32)), (.ref a_utf)]))
  obtain ⟨_, _, ⟨T137, L137, k137, n137⟩, -, X137, ⟨Lc137, hQ137, l137, y137, z137⟩, st137⟩ := Jvm.LawKit.callS X136 hx (y := (⟨"java/lang/String", "encode", "(Ljava/nio/charset/Charset;B[B)[B"⟩ : MethodName)) hown (mvT hZ (hw _ (List.mem_of_getElem? (i := 57) rfl))) (mvT hZ (hw _ (List.mem_of_getElem? (i := 58) rfl))) (mvT hZ (hw _ (List.mem_of_getElem? (i := 7) rfl))) (mvT hZ (hw _ (List.mem_of_getElem? (i := 59) rfl))) (by decide) (backOf (W := 0) (own_rm_enc l Z a0 hw [] a_utf b kk x h0 n0 Z0 O0 S_u2 V1 E1) hZ (hw _ (List.mem_of_getElem? (i := 59) rfl)) (hw _ (List.mem_of_getElem? (i := 7) rfl)) (by decide) (by decide)) (g := (mkF m 21 #[.val (.ref r), .val (.ref a_utf)] [(.ref b), (.int (0 : Int32)), (.ref a_utf)])) rfl (by rw [hml]; rfl) (argsL := [(.ref a_utf), (.int (0 : Int32)), (.ref b)]) (rest := []) (lenOf own_pd9 rfl) rfl (by show 2 * 0 + _ ≤ _; exact Nat.le_of_eq rfl) (hb hby own_d_jdk_42_method_64_code_21) (fun _ _ => ⟨rfl, e136, (by decide : 0 + 1 ≤ _), (by decide : 0 + 2 ≤ _)⟩)
  dsimp only [Pt.U, Pt.locs, Pt.cells, Pt.slots] at X137 l137 y137 z137 st137 hQ137
  subst l137 y137 z137
  obtain ⟨x138, x139, x140, x141, N137q, rfl, K137, q142, q143⟩ := hQ137
  have N144 := Fr.app N135 N137q
  refine own_st st137 ?_
  have Zs145 : n0 ≤ T137.heap.size := Nat.le_trans Z0 K137.1
  have Kp146 : Keep h0 T137.heap [] := Kp0.trans K137 all0
  show own_Go p e below s _ _ _ (T137.setTop (mkF m 24 #[.val (.ref r), .val (.ref a_utf)] [(.ref x138)]))
  refine own_retA X137 hx hlk Bd.returns rfl (hb hby own_d_jdk_42_method_64_code_24) (by decide) (by decide) ?_
  skip
  exact ⟨x138, x139, x140, x141, N144, rfl, Kp146, q142, q143⟩
theorem own_d_prog_20_method_1_code_0 : decode prog_20_method_1_code 0 = .ok (.aload_n 0, 1) := by decide +kernel
theorem own_d_prog_20_method_1_code_1 : decode prog_20_method_1_code 1 = .ok (.invokespecial 1, 3) := by decide +kernel
theorem own_d_prog_20_method_1_code_4 : decode prog_20_method_1_code 4 = .ok (.aload_n 1, 1) := by decide +kernel
theorem own_d_prog_20_method_1_code_5 : decode prog_20_method_1_code 5 = .ok (.invokevirtual 7, 3) := by decide +kernel
theorem own_d_prog_20_method_1_code_8 : decode prog_20_method_1_code 8 = .ok (.ifCond .eq 13, 3) := by decide +kernel
theorem own_d_prog_20_method_1_code_11 : decode prog_20_method_1_code 11 = .ok (.new 13, 3) := by decide +kernel
theorem own_d_prog_20_method_1_code_14 : decode prog_20_method_1_code 14 = .ok (.dup, 1) := by decide +kernel
theorem own_d_prog_20_method_1_code_15 : decode prog_20_method_1_code 15 = .ok (.ldc 15, 2) := by decide +kernel
theorem own_d_prog_20_method_1_code_17 : decode prog_20_method_1_code 17 = .ok (.invokespecial 17, 3) := by decide +kernel
theorem own_d_prog_20_method_1_code_20 : decode prog_20_method_1_code 20 = .ok (.athrow, 1) := by decide +kernel
theorem own_d_prog_20_method_1_code_21 : decode prog_20_method_1_code 21 = .ok (.aload_n 1, 1) := by decide +kernel
theorem own_d_prog_20_method_1_code_22 : decode prog_20_method_1_code 22 = .ok (.getstatic 20, 3) := by decide +kernel
theorem own_d_prog_20_method_1_code_25 : decode prog_20_method_1_code 25 = .ok (.invokevirtual 26, 3) := by decide +kernel
theorem own_d_prog_20_method_1_code_28 : decode prog_20_method_1_code 28 = .ok (.arraylength, 1) := by decide +kernel
theorem own_d_prog_20_method_1_code_29 : decode prog_20_method_1_code 29 = .ok (.sipush 32767, 3) := by decide +kernel
theorem own_d_prog_20_method_1_code_32 : decode prog_20_method_1_code 32 = .ok (.if_icmp .le 13, 3) := by decide +kernel
theorem own_d_prog_20_method_1_code_35 : decode prog_20_method_1_code 35 = .ok (.new 13, 3) := by decide +kernel
theorem own_d_prog_20_method_1_code_38 : decode prog_20_method_1_code 38 = .ok (.dup, 1) := by decide +kernel
theorem own_d_prog_20_method_1_code_39 : decode prog_20_method_1_code 39 = .ok (.ldc 32, 2) := by decide +kernel
theorem own_d_prog_20_method_1_code_41 : decode prog_20_method_1_code 41 = .ok (.invokespecial 17, 3) := by decide +kernel
theorem own_d_prog_20_method_1_code_44 : decode prog_20_method_1_code 44 = .ok (.athrow, 1) := by decide +kernel
theorem own_d_prog_20_method_1_code_45 : decode prog_20_method_1_code 45 = .ok (.iload_n 2, 1) := by decide +kernel
theorem own_d_prog_20_method_1_code_46 : decode prog_20_method_1_code 46 = .ok (.iconst 1, 1) := by decide +kernel
theorem own_d_prog_20_method_1_code_47 : decode prog_20_method_1_code 47 = .ok (.if_icmp .ge 17, 3) := by decide +kernel
theorem own_d_prog_20_method_1_code_50 : decode prog_20_method_1_code 50 = .ok (.new 13, 3) := by decide +kernel
theorem own_d_prog_20_method_1_code_53 : decode prog_20_method_1_code 53 = .ok (.dup, 1) := by decide +kernel
theorem own_d_prog_20_method_1_code_54 : decode prog_20_method_1_code 54 = .ok (.iload_n 2, 1) := by decide +kernel
theorem own_d_prog_20_method_1_code_55 : decode prog_20_method_1_code 55 = .ok (.invokedynamic 34, 5) := by decide +kernel
theorem own_d_prog_20_method_1_code_60 : decode prog_20_method_1_code 60 = .ok (.invokespecial 17, 3) := by decide +kernel
theorem own_d_prog_20_method_1_code_63 : decode prog_20_method_1_code 63 = .ok (.athrow, 1) := by decide +kernel
theorem own_d_prog_20_method_1_code_64 : decode prog_20_method_1_code 64 = .ok (.iload_n 2, 1) := by decide +kernel
theorem own_d_prog_20_method_1_code_65 : decode prog_20_method_1_code 65 = .ok (.ldc 40, 2) := by decide +kernel
theorem own_d_prog_20_method_1_code_67 : decode prog_20_method_1_code 67 = .ok (.if_icmp .le 17, 3) := by decide +kernel
theorem own_d_prog_20_method_1_code_70 : decode prog_20_method_1_code 70 = .ok (.new 13, 3) := by decide +kernel
theorem own_d_prog_20_method_1_code_73 : decode prog_20_method_1_code 73 = .ok (.dup, 1) := by decide +kernel
theorem own_d_prog_20_method_1_code_74 : decode prog_20_method_1_code 74 = .ok (.iload_n 2, 1) := by decide +kernel
theorem own_d_prog_20_method_1_code_75 : decode prog_20_method_1_code 75 = .ok (.invokedynamic 41, 5) := by decide +kernel
theorem own_d_prog_20_method_1_code_80 : decode prog_20_method_1_code 80 = .ok (.invokespecial 17, 3) := by decide +kernel
theorem own_d_prog_20_method_1_code_83 : decode prog_20_method_1_code 83 = .ok (.athrow, 1) := by decide +kernel
theorem own_d_prog_20_method_1_code_84 : decode prog_20_method_1_code 84 = .ok (.aload_n 0, 1) := by decide +kernel
theorem own_d_prog_20_method_1_code_85 : decode prog_20_method_1_code 85 = .ok (.aload_n 1, 1) := by decide +kernel
theorem own_d_prog_20_method_1_code_86 : decode prog_20_method_1_code 86 = .ok (.putfield 42, 3) := by decide +kernel
theorem own_d_prog_20_method_1_code_89 : decode prog_20_method_1_code 89 = .ok (.aload_n 0, 1) := by decide +kernel
theorem own_d_prog_20_method_1_code_90 : decode prog_20_method_1_code 90 = .ok (.iload_n 2, 1) := by decide +kernel
theorem own_d_prog_20_method_1_code_91 : decode prog_20_method_1_code 91 = .ok (.putfield 46, 3) := by decide +kernel
theorem own_d_prog_20_method_1_code_94 : decode prog_20_method_1_code 94 = .ok (.return_, 1) := by decide +kernel
theorem own_pn14 : plainFor (⟨"com/example/indri/indri/calls/Topic", "<init>", "(Ljava/lang/String;I)V"⟩ : MethodName) = true := by decide +kernel
theorem own_pd10 : parseMethodDescriptor "()V" = some ⟨[], none⟩ := by decide +kernel
theorem own_pd11 : parseMethodDescriptor "()Z" = some ⟨[], some .boolean⟩ := by decide +kernel
theorem own_pd12 : parseMethodDescriptor "(Ljava/nio/charset/Charset;)[B" = some ⟨[(.object "java/nio/charset/Charset")], some (.array .byte)⟩ := by decide +kernel
def own_rm_tinit_Q (Z : State) (t : Addr) (r : Addr) (n : Int32) (a_utf : Addr) (a_cs : Int32) (b : Addr) (kk : ClassId) (x : Int32) (h0 : Heap) (n0 : Nat) (v : Option Value) (h : Heap) (L : List Loc) : Prop := Fr n0 L ∧ v = none ∧ Keep h0 h [t] ∧ Exa Z h t "com/example/indri/indri/calls/Topic" ∧ Fld Z h t "com/example/indri/indri/calls/Topic" "partitions" "I" (.int n)
theorem own_rm_tinit_ef (m : MethodId) (t : Addr) (r : Addr) (n : Int32) : entryFrame m #[(.ref t), (.ref r), (.int n)] 3 = mkF m 0 #[.val (.ref t), .val (.ref r), .val (.int n)] [] := by first | (simp [entryFrame, mkF, argsToLocals, Value.category]; done) | rfl
set_option maxRecDepth 65536 in
set_option maxHeartbeats 40000000 in
theorem own_rm_tinit (l : Launch) (Z : State) (a0 : Array Value) (hw : ∀ d ∈ tables_1, d.before a0 Z = true) (ws : List Jvm.Cond) (t : Addr) (r : Addr) (n : Int32) (a_utf : Addr) (a_cs : Int32) (b : Addr) (kk : ClassId) (x : Int32) (h0 : Heap) (n0 : Nat) (Z0 : n0 ≤ h0.size) (O0 : Old Z n0 h0) (S_u1 : Sta Z Z.heap "java/nio/charset/StandardCharsets" "UTF_8" "Ljava/nio/charset/Charset;" (.ref a_utf)) (S_u2 : Sta Z Z.heap "sun/nio/cs/UTF_8" "INSTANCE" "Lsun/nio/cs/UTF_8;" (.ref a_utf)) (S_cs : Sta Z Z.heap "java/lang/String" "COMPACT_STRINGS" "Z" (.int a_cs)) (h_cs : ¬ a_cs = 0) (F1 : Fld Z h0 r "java/lang/String" "value" "[B" (.ref b)) (F2 : Fld Z h0 r "java/lang/String" "coder" "B" (.int (0 : Int32))) (V1 : Arv Z h0 b kk .byte (1 : Int32) [(.int x)] (.int (0 : Int32))) (E1 : Exa Z h0 b "[B") (E2 : Exa Z h0 r "java/lang/String") (E3 : Exa Z h0 t "com/example/indri/indri/calls/Topic") (F3 : Fld Z h0 t "com/example/indri/indri/calls/Topic" "name" "Ljava/lang/String;" .null) (F4 : Fld Z h0 t "com/example/indri/indri/calls/Topic" "partitions" "I" (.int (0 : Int32))) (g1 : n0 ≤ t) (hn1 : ¬ n < (1 : Int32)) (hn2 : ¬ (100000 : Int32) < n) :
    MetFree l (⟨"com/example/indri/indri/calls/Topic", "<init>", "(Ljava/lang/String;I)V"⟩ : MethodName) (head1 (Jvm.Cond.code (⟨"com/example/indri/indri/calls/Topic", "<init>", "(Ljava/lang/String;I)V"⟩ : MethodName) prog_20_method_1_code 3 none :: ws) ({ frames := 5, cells := 1, slots := 2, locals := 77 } : Room)) (fun a U => a = #[(.ref t), (.ref r), (.int n)] ∧ Z.Warmed39 U.vm ∧ U.heap = h0) (fun _ _ _ _ _ => True) (fun _ U o U' => ∃ v L, o = .returned v ∧ own_rm_tinit_Q Z t r n a_utf a_cs b kk x h0 n0 v U'.heap L ∧ FrameEnd U o U' L ({ frames := 5, cells := 1, slots := 2, locals := 77 } : Room).cells ({ frames := 5, cells := 1, slots := 2, locals := 77 } : Room).slots) := by
  refine MetFree.of_bodySF own_pn14 hisR ?_
  intro p e s m args below meth c s₁ Bd hml0 hP hK
  obtain ⟨rfl, hZ, hh⟩ := hP
  have hx := Bd.exec
  have hby := Bd.bytes
  have hml : c.maxLocals = 3 := hml0
  have hlk := BodyLoose.notSynchronized Bd
  have hown : s.vm.findClass "com/example/indri/indri/calls/Topic" = some m.cls := findClass_of_methodNamed Bd.named
  have hnm := (name_of_methodNamed Bd.named Bd.method).1
  have X0 : Stand p l e ({ frames := 5, cells := 1, slots := 2, locals := 77 } : Room) s m #[(.ref t), (.ref r), (.int n)] below meth c s₁ [] 0 0 := Stand.of_body Bd
  have e0 : s₁.heap = h0 := by rw [← hh, Bd.state]; rfl
  have N0 := Fr.nil n0
  have Kp0 : Keep h0 h0 [t] := Keep.refl _ _
  show own_Go p e below s (own_rm_tinit_Q Z t r n a_utf a_cs b kk x h0 n0) ({ frames := 5, cells := 1, slots := 2, locals := 77 } : Room).cells ({ frames := 5, cells := 1, slots := 2, locals := 77 } : Room).slots (s₁.setTop (entryFrame m #[(.ref t), (.ref r), (.int n)] 3))
  rw [own_rm_tinit_ef]
  show own_Go p e below s _ _ _ (s₁.setTop (mkF m 0 #[.val (.ref t), .val (.ref r), .val (.int n)] []))
  refine own_st (fun _ k => XS.aloadN X0.here hx rfl (hb hby own_d_prog_20_method_1_code_0) rfl rfl k) ?_
  show own_Go p e below s _ _ _ (s₁.setTop (mkF m 1 #[.val (.ref t), .val (.ref r), .val (.int n)] [(.ref t)]))
  obtain ⟨_, _, ⟨T147, L147, k147, n147⟩, -, X147, ⟨Lc147, hQ147, l147, y147, z147⟩, st147⟩ := X0.specialBack hx (y := (⟨"java/lang/Record", "<init>", "()V"⟩ : MethodName)) rfl hown (mvT hZ (hw _ (List.mem_of_getElem? (i := 34) rfl))) (mvT hZ (hw _ (List.mem_of_getElem? (i := 35) rfl))) (mvT hZ (hw _ (List.mem_of_getElem? (i := 38) rfl))) (by decide) (backOf (W := 0) (own_rm_record l Z a0 hw [] t h0 n0 Z0 ) hZ (hw _ (List.mem_of_getElem? (i := 38) rfl)) (hw _ (List.mem_of_getElem? (i := 37) rfl)) (by decide) (by decide)) (g := (mkF m 1 #[.val (.ref t), .val (.ref r), .val (.int n)] [(.ref t)])) rfl (by rw [hml]; rfl) (Steps.refl _) (a := t) (argsL := []) (rest := []) (lenOf own_pd10 rfl) rfl (by show 2 * 0 + _ ≤ _; exact Nat.le_of_eq rfl) (hb hby own_d_prog_20_method_1_code_1) (fun _ _ => ⟨rfl, e0, (by decide : 0 + 0 ≤ _), (by decide : 0 + 0 ≤ _)⟩)
  dsimp only [Pt.U, Pt.locs, Pt.cells, Pt.slots] at X147 l147 y147 z147 st147 hQ147
  subst l147 y147 z147
  obtain ⟨N147q, rfl, eh147⟩ := hQ147
  have N148 := Fr.app N0 N147q
  refine own_tr st147 ?_
  show own_Go p e below s _ _ _ (T147.setTop (mkF m 4 #[.val (.ref t), .val (.ref r), .val (.int n)] []))
  refine own_st (fun _ k => XS.aloadN X147.here hx rfl (hb hby own_d_prog_20_method_1_code_4) rfl rfl k) ?_
  show own_Go p e below s _ _ _ (T147.setTop (mkF m 5 #[.val (.ref t), .val (.ref r), .val (.int n)] [(.ref r)]))
  obtain ⟨cq149, kq149, q149a, q149b, q149c⟩ := isOf hZ eh147 E2
  obtain ⟨_, _, ⟨T149, L149, k149, n149⟩, -, X149, ⟨Lc149, hQ149, l149, y149, z149⟩, st149⟩ := X147.virtualBack hx (y := (⟨"java/lang/String", "isEmpty", "()Z"⟩ : MethodName)) (z := (⟨"java/lang/String", "isEmpty", "()Z"⟩ : MethodName)) hown (mvT hZ (hw _ (List.mem_of_getElem? (i := 40) rfl))) (mvT hZ (hw _ (List.mem_of_getElem? (i := 41) rfl))) (notFace_of_selects (args := #[]) (mvT hZ (hw _ (List.mem_of_getElem? (i := 43) rfl)))) (mvT hZ (hw _ (List.mem_of_getElem? (i := 43) rfl))) (mvT hZ (hw _ (List.mem_of_getElem? (i := 42) rfl))) (by decide) (backOf (W := 0) (own_rm_isEmpty l Z a0 hw [] r b kk x h0 n0 Z0 F1 V1) hZ (hw _ (List.mem_of_getElem? (i := 44) rfl)) (hw _ (List.mem_of_getElem? (i := 7) rfl)) (by decide) (by decide)) q149a q149c (g := (mkF m 5 #[.val (.ref t), .val (.ref r), .val (.int n)] [(.ref r)])) rfl (by rw [hml]; rfl) (Steps.refl _) (argsL := []) (rest := []) (lenOf own_pd11 rfl) rfl (by show 2 * 0 + _ ≤ _; exact Nat.le_of_eq rfl) (hb hby own_d_prog_20_method_1_code_5) (fun _ _ => ⟨rfl, eh147, (by decide : 0 + 0 ≤ _), (by decide : 0 + 0 ≤ _)⟩)
  dsimp only [Pt.U, Pt.locs, Pt.cells, Pt.slots] at X149 l149 y149 z149 st149 hQ149
  subst l149 y149 z149
  obtain ⟨N149q, rfl, eh149⟩ := hQ149
  have N150 := Fr.app N148 N149q
  refine own_tr st149 ?_
  show own_Go p e below s _ _ _ (T149.setTop (mkF m 8 #[.val (.ref t), .val (.ref r), .val (.int n)] [(.int (0 : Int32))]))
  refine own_st (fun _ k => XS.ifYes X149.here hx rfl (pc0 := 8) (pc' := 21) rfl (hb hby own_d_prog_20_method_1_code_8) rfl (XT.i0_eq_t (by decide)) (by decide) (by decide) k) ?_
  show own_Go p e below s _ _ _ (T149.setTop (mkF m 21 #[.val (.ref t), .val (.ref r), .val (.int n)] []))
  refine own_st (fun _ k => XS.aloadN X149.here hx rfl (hb hby own_d_prog_20_method_1_code_21) rfl rfl k) ?_
  show own_Go p e below s _ _ _ (T149.setTop (mkF m 22 #[.val (.ref t), .val (.ref r), .val (.int n)] [(.ref r)]))
  have F151 : Sta Z h0 "java/nio/charset/StandardCharsets" "UTF_8" "Ljava/nio/charset/Charset;" (.ref a_utf) := S_u1.ext O0.2
  obtain ⟨T152, X152, e152, st152⟩ := getS2 X149 hx hZ hown (host := "") (Or.inl (hw _ (List.mem_of_getElem? (i := 45) rfl))) Via.refl eh149 F151 (g := (mkF m 22 #[.val (.ref t), .val (.ref r), .val (.int n)] [(.ref r)])) rfl (hb hby own_d_prog_20_method_1_code_22)
  refine own_st st152 ?_
  show own_Go p e below s _ _ _ (T152.setTop (mkF m 25 #[.val (.ref t), .val (.ref r), .val (.int n)] [(.ref a_utf), (.ref r)]))
  obtain ⟨cq153, kq153, q153a, q153b, q153c⟩ := isOf hZ e152 E2
  obtain ⟨_, _, ⟨T153, L153, k153, n153⟩, -, X153, ⟨Lc153, hQ153, l153, y153, z153⟩, st153⟩ := X152.virtualBack hx (y := (⟨"java/lang/String", "getBytes", "(Ljava/nio/charset/Charset;)[B"⟩ : MethodName)) (z := (⟨"java/lang/String", "getBytes", "(Ljava/nio/charset/Charset;)[B"⟩ : MethodName)) hown (mvT hZ (hw _ (List.mem_of_getElem? (i := 47) rfl))) (mvT hZ (hw _ (List.mem_of_getElem? (i := 48) rfl))) (notFace_of_selects (args := #[]) (mvT hZ (hw _ (List.mem_of_getElem? (i := 50) rfl)))) (mvT hZ (hw _ (List.mem_of_getElem? (i := 50) rfl))) (mvT hZ (hw _ (List.mem_of_getElem? (i := 49) rfl))) (by decide) (backOf (W := 0) (own_rm_gb l Z a0 hw [] r a_utf a_cs b kk x h0 n0 Z0 O0 S_u2 S_cs h_cs F1 F2 V1 E1 E2) hZ (hw _ (List.mem_of_getElem? (i := 51) rfl)) (hw _ (List.mem_of_getElem? (i := 7) rfl)) (by decide) (by decide)) q153a q153c (g := (mkF m 25 #[.val (.ref t), .val (.ref r), .val (.int n)] [(.ref a_utf), (.ref r)])) rfl (by rw [hml]; rfl) (Steps.refl _) (argsL := [(.ref a_utf)]) (rest := []) (lenOf own_pd12 rfl) rfl (by show 2 * 0 + _ ≤ _; exact Nat.le_of_eq rfl) (hb hby own_d_prog_20_method_1_code_25) (fun _ _ => ⟨rfl, e152, (by decide : 0 + 1 ≤ _), (by decide : 0 + 2 ≤ _)⟩)
  dsimp only [Pt.U, Pt.locs, Pt.cells, Pt.slots] at X153 l153 y153 z153 st153 hQ153
  subst l153 y153 z153
  obtain ⟨x154, x155, x156, x157, N153q, rfl, K153, q158, q159⟩ := hQ153
  have N160 := Fr.app N150 N153q
  refine own_tr st153 ?_
  have Zs161 : n0 ≤ T153.heap.size := Nat.le_trans Z0 K153.1
  have Kp162 : Keep h0 T153.heap [t] := Kp0.trans K153 all0
  show own_Go p e below s _ _ _ (T153.setTop (mkF m 28 #[.val (.ref t), .val (.ref r), .val (.int n)] [(.ref x154)]))
  obtain ⟨cl163, Ar163, -, S163, N163, -, -⟩ := id q158
  refine own_st (fun _ k => X153.arraylength hx (own_hp rfl Ar163.1) (State.isArrayOf_alike hZ.alike Ar163.2.1) (g := (mkF m 28 #[.val (.ref t), .val (.ref r), .val (.int n)] [(.ref x154)])) rfl rfl (hb hby own_d_prog_20_method_1_code_28) _ k) ?_
  rw [len_of S163 N163]
  show own_Go p e below s _ _ _ (T153.setTop (mkF m 29 #[.val (.ref t), .val (.ref r), .val (.int n)] [(.int x156)]))
  refine own_st (fun _ k => XT.sipushV X153.here hx rfl (32767 : Int32) (hb hby own_d_prog_20_method_1_code_29) (by decide) k) ?_
  show own_Go p e below s _ _ _ (T153.setTop (mkF m 32 #[.val (.ref t), .val (.ref r), .val (.int n)] [(.int (32767 : Int32)), (.int x156)]))
  refine own_st (fun _ k => XS.icmpYes X153.here hx rfl (pc0 := 32) (pc' := 45) rfl (hb hby own_d_prog_20_method_1_code_32) rfl (XT.ii_le_t q159) (by decide) (by decide) k) ?_
  show own_Go p e below s _ _ _ (T153.setTop (mkF m 45 #[.val (.ref t), .val (.ref r), .val (.int n)] []))
  refine own_st (fun _ k => XS.iloadN X153.here hx rfl (hb hby own_d_prog_20_method_1_code_45) rfl k) ?_
  show own_Go p e below s _ _ _ (T153.setTop (mkF m 46 #[.val (.ref t), .val (.ref r), .val (.int n)] [(.int n)]))
  refine own_st (fun _ k => XT.iconstV X153.here hx rfl (1 : Int32) (hb hby own_d_prog_20_method_1_code_46) (by decide) k) ?_
  show own_Go p e below s _ _ _ (T153.setTop (mkF m 47 #[.val (.ref t), .val (.ref r), .val (.int n)] [(.int (1 : Int32)), (.int n)]))
  refine own_st (fun _ k => XS.icmpYes X153.here hx rfl (pc0 := 47) (pc' := 64) rfl (hb hby own_d_prog_20_method_1_code_47) rfl (XT.ii_ge_t hn1) (by decide) (by decide) k) ?_
  show own_Go p e below s _ _ _ (T153.setTop (mkF m 64 #[.val (.ref t), .val (.ref r), .val (.int n)] []))
  refine own_st (fun _ k => XS.iloadN X153.here hx rfl (hb hby own_d_prog_20_method_1_code_64) rfl k) ?_
  show own_Go p e below s _ _ _ (T153.setTop (mkF m 65 #[.val (.ref t), .val (.ref r), .val (.int n)] [(.int n)]))
  refine own_st (fun _ k => X153.ldcI hx hown (mvT hZ (hw _ (List.mem_of_getElem? (i := 81) rfl))) rfl (hb hby own_d_prog_20_method_1_code_65) k) ?_
  show own_Go p e below s _ _ _ (T153.setTop (mkF m 67 #[.val (.ref t), .val (.ref r), .val (.int n)] [(.int (100000 : Int32)), (.int n)]))
  refine own_st (fun _ k => XS.icmpYes X153.here hx rfl (pc0 := 67) (pc' := 84) rfl (hb hby own_d_prog_20_method_1_code_67) rfl (XT.ii_le_t hn2) (by decide) (by decide) k) ?_
  show own_Go p e below s _ _ _ (T153.setTop (mkF m 84 #[.val (.ref t), .val (.ref r), .val (.int n)] []))
  refine own_st (fun _ k => XS.aloadN X153.here hx rfl (hb hby own_d_prog_20_method_1_code_84) rfl rfl k) ?_
  show own_Go p e below s _ _ _ (T153.setTop (mkF m 85 #[.val (.ref t), .val (.ref r), .val (.int n)] [(.ref t)]))
  refine own_st (fun _ k => XS.aloadN X153.here hx rfl (hb hby own_d_prog_20_method_1_code_85) rfl rfl k) ?_
  show own_Go p e below s _ _ _ (T153.setTop (mkF m 86 #[.val (.ref t), .val (.ref r), .val (.int n)] [(.ref r), (.ref t)]))
  have F164 : Fld Z T153.heap t "com/example/indri/indri/calls/Topic" "name" "Ljava/lang/String;" .null := (F3.keep K153 nin0)
  have F165 : Exa Z T153.heap t "com/example/indri/indri/calls/Topic" := (E3.keep K153)
  obtain ⟨T166, h166, X166, e166, W166, st166⟩ := putF X153 hx hZ hown (host := "") (Or.inl (hw _ (List.mem_of_getElem? (i := 82) rfl))) Via.refl rfl F164 F165 (Or.inr ⟨(hw _ (List.mem_of_getElem? (i := 83) rfl)), rfl, hnm⟩) (hw _ (List.mem_of_getElem? (i := 3) rfl)) (ty := (.object "java/lang/String")) (by decide) rfl rfl (g := (mkF m 86 #[.val (.ref t), .val (.ref r), .val (.int n)] [(.ref r), (.ref t)])) rfl rfl (hb hby own_d_prog_20_method_1_code_86)
  refine own_st st166 ?_
  have N167 := Fr.snoc X166 N160 g1
  have F168 : Fld Z h166 t "com/example/indri/indri/calls/Topic" "name" "Ljava/lang/String;" (.ref r) := F164.same W166
  have Zs169 : n0 ≤ h166.size := Nat.le_trans Zs161 (Nat.le_of_eq W166.size.symm)
  have Kp170 : Keep h0 h166 [t] := Kp162.wr W166 (Or.inl (List.mem_of_getElem? (i := 0) rfl))
  show own_Go p e below s _ _ _ (T166.setTop (mkF m 89 #[.val (.ref t), .val (.ref r), .val (.int n)] []))
  refine own_st (fun _ k => XS.aloadN X166.here hx rfl (hb hby own_d_prog_20_method_1_code_89) rfl rfl k) ?_
  show own_Go p e below s _ _ _ (T166.setTop (mkF m 90 #[.val (.ref t), .val (.ref r), .val (.int n)] [(.ref t)]))
  refine own_st (fun _ k => XS.iloadN X166.here hx rfl (hb hby own_d_prog_20_method_1_code_90) rfl k) ?_
  show own_Go p e below s _ _ _ (T166.setTop (mkF m 91 #[.val (.ref t), .val (.ref r), .val (.int n)] [(.int n), (.ref t)]))
  have F171 : Fld Z h166 t "com/example/indri/indri/calls/Topic" "partitions" "I" (.int (0 : Int32)) := ((F4.keep K153 nin0).other W166 (Or.inr (slot_ne (Or.inr (hw _ (List.mem_of_getElem? (i := 85) rfl))) (Or.inr (hw _ (List.mem_of_getElem? (i := 83) rfl))) (by decide) (t := .int) (t' := (.object "java/lang/String")) (by decide) (by decide))))
  have F172 : Exa Z h166 t "com/example/indri/indri/calls/Topic" := (F165.wr W166)
  obtain ⟨T173, h173, X173, e173, W173, st173⟩ := putF X166 hx hZ hown (host := "") (Or.inl (hw _ (List.mem_of_getElem? (i := 84) rfl))) Via.refl e166 F171 F172 (Or.inr ⟨(hw _ (List.mem_of_getElem? (i := 85) rfl)), rfl, hnm⟩) (hw _ (List.mem_of_getElem? (i := 3) rfl)) (ty := .int) (by decide) rfl rfl (g := (mkF m 91 #[.val (.ref t), .val (.ref r), .val (.int n)] [(.int n), (.ref t)])) rfl rfl (hb hby own_d_prog_20_method_1_code_91)
  refine own_st st173 ?_
  have N174 := Fr.snoc X173 N167 g1
  have F175 : Fld Z h173 t "com/example/indri/indri/calls/Topic" "partitions" "I" (.int n) := F171.same W173
  have Zs176 : n0 ≤ h173.size := Nat.le_trans Zs169 (Nat.le_of_eq W173.size.symm)
  have Kp177 : Keep h0 h173 [t] := Kp170.wr W173 (Or.inl (List.mem_of_getElem? (i := 0) rfl))
  show own_Go p e below s _ _ _ (T173.setTop (mkF m 94 #[.val (.ref t), .val (.ref r), .val (.int n)] []))
  have F178 : Exa Z h173 t "com/example/indri/indri/calls/Topic" := (F172.wr W173)
  refine own_ret0 X173 hx hlk Bd.returns (hb hby own_d_prog_20_method_1_code_94) (by decide) (by decide) ?_
  rw [e173]
  exact ⟨N174, rfl, Kp177, F178, F175⟩
theorem own_d_prog_20_method_2_code_0 : decode prog_20_method_2_code 0 = .ok (.iload_n 1, 1) := by decide +kernel
theorem own_d_prog_20_method_2_code_1 : decode prog_20_method_2_code 1 = .ok (.ifCond .lt 15, 3) := by decide +kernel
theorem own_d_prog_20_method_2_code_4 : decode prog_20_method_2_code 4 = .ok (.iload_n 1, 1) := by decide +kernel
theorem own_d_prog_20_method_2_code_5 : decode prog_20_method_2_code 5 = .ok (.aload_n 0, 1) := by decide +kernel
theorem own_d_prog_20_method_2_code_6 : decode prog_20_method_2_code 6 = .ok (.getfield 46, 3) := by decide +kernel
theorem own_d_prog_20_method_2_code_9 : decode prog_20_method_2_code 9 = .ok (.if_icmp .ge 7, 3) := by decide +kernel
theorem own_d_prog_20_method_2_code_12 : decode prog_20_method_2_code 12 = .ok (.iconst 1, 1) := by decide +kernel
theorem own_d_prog_20_method_2_code_13 : decode prog_20_method_2_code 13 = .ok (.goto 4, 3) := by decide +kernel
theorem own_d_prog_20_method_2_code_16 : decode prog_20_method_2_code 16 = .ok (.iconst 0, 1) := by decide +kernel
theorem own_d_prog_20_method_2_code_17 : decode prog_20_method_2_code 17 = .ok (.ireturn, 1) := by decide +kernel
theorem own_pn15 : plainFor (⟨"com/example/indri/indri/calls/Topic", "hasPartition", "(I)Z"⟩ : MethodName) = true := by decide +kernel
def own_rm_hp_Q (Z : State) (t : Addr) (p1 : Int32) (n : Int32) (h0 : Heap) (n0 : Nat) (v : Option Value) (h : Heap) (L : List Loc) : Prop := Fr n0 L ∧ v = some (.int (if p1 < 0 then (0 : Int32) else if p1 < n then 1 else 0)) ∧ h = h0
theorem own_rm_hp_ef (m : MethodId) (t : Addr) (p1 : Int32) : entryFrame m #[(.ref t), (.int p1)] 2 = mkF m 0 #[.val (.ref t), .val (.int p1)] [] := by first | (simp [entryFrame, mkF, argsToLocals, Value.category]; done) | rfl
set_option maxRecDepth 65536 in
set_option maxHeartbeats 40000000 in
theorem own_rm_hp (l : Launch) (Z : State) (a0 : Array Value) (hw : ∀ d ∈ tables_1, d.before a0 Z = true) (ws : List Jvm.Cond) (t : Addr) (p1 : Int32) (n : Int32) (h0 : Heap) (n0 : Nat) (Z0 : n0 ≤ h0.size) (F1 : Fld Z h0 t "com/example/indri/indri/calls/Topic" "partitions" "I" (.int n)) :
    MetFree l (⟨"com/example/indri/indri/calls/Topic", "hasPartition", "(I)Z"⟩ : MethodName) (head1 (Jvm.Cond.code (⟨"com/example/indri/indri/calls/Topic", "hasPartition", "(I)Z"⟩ : MethodName) prog_20_method_2_code 2 (some .boolean) :: ws) ({ frames := 0, cells := 0, slots := 0, locals := 0 } : Room)) (fun a U => a = #[(.ref t), (.int p1)] ∧ Z.Warmed39 U.vm ∧ U.heap = h0) (fun _ _ _ _ _ => True) (fun _ U o U' => ∃ v L, o = .returned v ∧ own_rm_hp_Q Z t p1 n h0 n0 v U'.heap L ∧ FrameEnd U o U' L ({ frames := 0, cells := 0, slots := 0, locals := 0 } : Room).cells ({ frames := 0, cells := 0, slots := 0, locals := 0 } : Room).slots) := by
  refine MetFree.of_bodySF own_pn15 hisR ?_
  intro p e s m args below meth c s₁ Bd hml0 hP hK
  obtain ⟨rfl, hZ, hh⟩ := hP
  have hx := Bd.exec
  have hby := Bd.bytes
  have hml : c.maxLocals = 2 := hml0
  have hlk := BodyLoose.notSynchronized Bd
  have hown : s.vm.findClass "com/example/indri/indri/calls/Topic" = some m.cls := findClass_of_methodNamed Bd.named
  have hnm := (name_of_methodNamed Bd.named Bd.method).1
  have X0 : Stand p l e ({ frames := 0, cells := 0, slots := 0, locals := 0 } : Room) s m #[(.ref t), (.int p1)] below meth c s₁ [] 0 0 := Stand.of_body Bd
  have e0 : s₁.heap = h0 := by rw [← hh, Bd.state]; rfl
  have N0 := Fr.nil n0
  show own_Go p e below s (own_rm_hp_Q Z t p1 n h0 n0) ({ frames := 0, cells := 0, slots := 0, locals := 0 } : Room).cells ({ frames := 0, cells := 0, slots := 0, locals := 0 } : Room).slots (s₁.setTop (entryFrame m #[(.ref t), (.int p1)] 2))
  rw [own_rm_hp_ef]
  show own_Go p e below s _ _ _ (s₁.setTop (mkF m 0 #[.val (.ref t), .val (.int p1)] []))
  refine own_st (fun _ k => XS.iloadN X0.here hx rfl (hb hby own_d_prog_20_method_2_code_0) rfl k) ?_
  show own_Go p e below s _ _ _ (s₁.setTop (mkF m 1 #[.val (.ref t), .val (.int p1)] [(.int p1)]))
  by_cases hc179 : p1 < 0
  · refine own_st (fun _ k => XS.ifYes X0.here hx rfl (pc0 := 1) (pc' := 16) rfl (hb hby own_d_prog_20_method_2_code_1) rfl (XT.i0_lt_t hc179) (by decide) (by decide) k) ?_
    show own_Go p e below s _ _ _ (s₁.setTop (mkF m 16 #[.val (.ref t), .val (.int p1)] []))
    refine own_st (fun _ k => XT.iconstV X0.here hx rfl (0 : Int32) (hb hby own_d_prog_20_method_2_code_16) (by decide) k) ?_
    show own_Go p e below s _ _ _ (s₁.setTop (mkF m 17 #[.val (.ref t), .val (.int p1)] [(.int (0 : Int32))]))
    refine own_retN X0 hx hlk Bd.returns (t := .boolean) (z' := (0 : Int32)) (by simp) (by decide) (hb hby own_d_prog_20_method_2_code_17) (by decide) (by decide) ?_
    rw [e0]
    exact ⟨N0, (by rw [if_pos hc179]), rfl⟩
  · refine own_st (fun _ k => XS.ifNo X0.here hx rfl (hb hby own_d_prog_20_method_2_code_1) rfl (XT.i0_lt_f hc179) k) ?_
    show own_Go p e below s _ _ _ (s₁.setTop (mkF m 4 #[.val (.ref t), .val (.int p1)] []))
    refine own_st (fun _ k => XS.iloadN X0.here hx rfl (hb hby own_d_prog_20_method_2_code_4) rfl k) ?_
    show own_Go p e below s _ _ _ (s₁.setTop (mkF m 5 #[.val (.ref t), .val (.int p1)] [(.int p1)]))
    refine own_st (fun _ k => XS.aloadN X0.here hx rfl (hb hby own_d_prog_20_method_2_code_5) rfl rfl k) ?_
    show own_Go p e below s _ _ _ (s₁.setTop (mkF m 6 #[.val (.ref t), .val (.int p1)] [(.ref t), (.int p1)]))
    obtain ⟨T180, X180, e180, st180⟩ := getF X0 hx hZ hown (host := "") (Or.inl (hw _ (List.mem_of_getElem? (i := 84) rfl))) Via.refl e0 F1 (g := (mkF m 6 #[.val (.ref t), .val (.int p1)] [(.ref t), (.int p1)])) rfl rfl (hb hby own_d_prog_20_method_2_code_6)
    refine own_st st180 ?_
    show own_Go p e below s _ _ _ (T180.setTop (mkF m 9 #[.val (.ref t), .val (.int p1)] [(.int n), (.int p1)]))
    by_cases hc181 : p1 < n
    · refine own_st (fun _ k => XS.icmpNo X180.here hx rfl (hb hby own_d_prog_20_method_2_code_9) rfl (XT.ii_ge_f hc181) k) ?_
      show own_Go p e below s _ _ _ (T180.setTop (mkF m 12 #[.val (.ref t), .val (.int p1)] []))
      refine own_st (fun _ k => XT.iconstV X180.here hx rfl (1 : Int32) (hb hby own_d_prog_20_method_2_code_12) (by decide) k) ?_
      show own_Go p e below s _ _ _ (T180.setTop (mkF m 13 #[.val (.ref t), .val (.int p1)] [(.int (1 : Int32))]))
      refine own_st (fun _ k => XS.goto X180.here hx rfl (pc0 := 13) (pc' := 17) rfl (hb hby own_d_prog_20_method_2_code_13) (by decide) (by decide) k) ?_
      show own_Go p e below s _ _ _ (T180.setTop (mkF m 17 #[.val (.ref t), .val (.int p1)] [(.int (1 : Int32))]))
      refine own_retN X180 hx hlk Bd.returns (t := .boolean) (z' := (1 : Int32)) (by simp) (by decide) (hb hby own_d_prog_20_method_2_code_17) (by decide) (by decide) ?_
      rw [e180]
      exact ⟨N0, (by rw [if_neg hc179, if_pos hc181]), rfl⟩
    · refine own_st (fun _ k => XS.icmpYes X180.here hx rfl (pc0 := 9) (pc' := 16) rfl (hb hby own_d_prog_20_method_2_code_9) rfl (XT.ii_ge_t hc181) (by decide) (by decide) k) ?_
      show own_Go p e below s _ _ _ (T180.setTop (mkF m 16 #[.val (.ref t), .val (.int p1)] []))
      refine own_st (fun _ k => XT.iconstV X180.here hx rfl (0 : Int32) (hb hby own_d_prog_20_method_2_code_16) (by decide) k) ?_
      show own_Go p e below s _ _ _ (T180.setTop (mkF m 17 #[.val (.ref t), .val (.int p1)] [(.int (0 : Int32))]))
      refine own_retN X180 hx hlk Bd.returns (t := .boolean) (z' := (0 : Int32)) (by simp) (by decide) (hb hby own_d_prog_20_method_2_code_17) (by decide) (by decide) ?_
      rw [e180]
      exact ⟨N0, (by rw [if_neg hc179, if_neg hc181]), rfl⟩
theorem own_rng (x : Int32) : 1 ≤ ((1 : Int32) + ((x &&& (2147483647 : Int32)) % (100000 : Int32))).toInt ∧ ((1 : Int32) + ((x &&& (2147483647 : Int32)) % (100000 : Int32))).toInt ≤ 100000 := by
  have h := own_rem x 100000 (by decide)
  have e : (100000 : Int32).toInt = 100000 := by decide
  have e1 : (1 : Int32).toInt = 1 := by decide
  rw [XT.add32 ⟨by omega, by omega⟩]
  omega
theorem own_char (x : Int32) : ¬ (255 : Int32) < (x &&& (255 : Int32)).toUInt32.toUInt16.toUInt32.toInt32 := by
  rw [i2c_mask]
  have h1 : ¬ (x &&& (255 : Int32)) < 0 := by rw [XT.and_neg32]; intro h; exact absurd h.2 (by decide)
  have h2 : (x &&& (255 : Int32)).toInt = x.toInt % 256 := Jvm.Kit.i32_mask x 255 (k := 8) (by decide) (by decide)
  rw [Int32.lt_iff_toInt_lt, h2]
  have e : (255 : Int32).toInt = 255 := by decide
  omega
theorem own_uns (p n : Int32) (h1 : 1 ≤ n.toInt) (h2 : n.toInt ≤ 100000) : ((p.toInt64) &&& (4294967295 : Int64)) < (n.toInt64) ↔ (¬ p < 0 ∧ p < n) := by
  have hm : ((p.toInt64) &&& (4294967295 : Int64)).toInt = p.toInt % 4294967296 := by
    have hb : ((p.toInt64) &&& (4294967295 : Int64)).toBitVec.toNat = p.toInt64.toBitVec.toNat % 4294967296 := by
      rw [Int64.toBitVec_and, BitVec.toNat_and]
      have e : (4294967295 : Int64).toBitVec.toNat = 2 ^ 32 - 1 := by decide
      rw [e, Nat.and_two_pow_sub_one_eq_mod]
    have hp : (p.toInt64.toBitVec.toNat : Int) % 4294967296 = p.toInt % 4294967296 := by
      have e1 : p.toInt64.toInt = p.toInt := Int32.toInt_toInt64 p
      have e2 : p.toInt64.toInt = (p.toInt64.toBitVec.toNat : Int).bmod (2 ^ 64) := by
        rw [← Int64.toInt_toBitVec, BitVec.toInt_eq_toNat_bmod]
      rw [← e1, e2]
      have hlt := p.toInt64.toBitVec.isLt
      simp only [Int.bmod]
      split <;> omega
    have hlt : (((p.toInt64) &&& (4294967295 : Int64)).toBitVec.toNat : Int) < 2 ^ 63 := by rw [hb]; omega
    rw [← Int64.toInt_toBitVec, BitVec.toInt_eq_toNat_bmod]
    have hb' : (((p.toInt64) &&& (4294967295 : Int64)).toBitVec.toNat : Int) = p.toInt % 4294967296 := by rw [hb, ← hp]; omega
    rw [hb'] at hlt ⊢
    simp only [Int.bmod]
    split <;> omega
  rw [Int64.lt_iff_toInt_lt, hm, Int32.toInt_toInt64, XT.negI32, Int32.lt_iff_toInt_lt]
  have b1 := Int32.le_toInt p
  have b2 := Int32.toInt_lt p
  omega
theorem own_bnd (n : Int32) (h1 : 1 ≤ n.toInt) (h2 : n.toInt ≤ 100000) : ¬ n < (1 : Int32) ∧ ¬ (100000 : Int32) < n ∧ 0 < n ∧ ¬ (n - (1 : Int32)) < 0 ∧ (n - (1 : Int32)) < n ∧ ¬ n < 0 ∧ ¬ (2147483647 : Int32) < n := by
  have e0 : (0 : Int32).toInt = 0 := by decide
  have e1 : (1 : Int32).toInt = 1 := by decide
  have e2 : (100000 : Int32).toInt = 100000 := by decide
  have e3 : (2147483647 : Int32).toInt = 2147483647 := by decide
  have e4 : (n - (1 : Int32)).toInt = n.toInt - 1 := by rw [XT.sub32 ⟨by omega, by omega⟩, e1]
  simp only [Int32.lt_iff_toInt_lt, e0, e1, e2, e3, e4]
  omega
theorem own_pn16 : plainFor (⟨"com/example/indri/indri/calls/TopicHasPartitionPinLaw", "law", "(III)Z"⟩ : MethodName) = true := by decide +kernel
theorem own_pd13 : parseMethodDescriptor "(C)Ljava/lang/String;" = some ⟨[.char], some (.object "java/lang/String")⟩ := by decide +kernel
theorem own_pd14 : parseMethodDescriptor "(Ljava/lang/String;I)V" = some ⟨[(.object "java/lang/String"), .int], none⟩ := by decide +kernel
theorem own_pd15 : parseMethodDescriptor "(I)Z" = some ⟨[.int], some .boolean⟩ := by decide +kernel
def own_law_Q (Z : State) (n0 : Nat) (v : Option Value) (h : Heap) (L : List Loc) : Prop := Fr n0 L ∧ v = some (.int 1)
theorem own_law_ef (m : MethodId) (p1 : Int32) (p2 : Int32) (p3 : Int32) : entryFrame m #[(.int p1), (.int p2), (.int p3)] maxLocals = mkF m 0 #[.val (.int p1), .val (.int p2), .val (.int p3), .unset, .unset, .unset, .unset, .unset, .unset, .unset] [] := by first | (simp [entryFrame, mkF, argsToLocals, Value.category, maxLocals]; done) | rfl
set_option maxRecDepth 65536 in
set_option maxHeartbeats 40000000 in
theorem own_law (l : Launch) (Z : State) (a0 : Array Value) (hw : ∀ d ∈ tables_1, d.before a0 Z = true) (ws : List Jvm.Cond) (p1 : Int32) (p2 : Int32) (p3 : Int32) (a_cs : Int32) (a_utf : Addr) (h0 : Heap) (n0 : Nat) (Z0 : n0 ≤ h0.size) (O0 : Old Z n0 h0) (S_cs : Sta Z Z.heap "java/lang/String" "COMPACT_STRINGS" "Z" (.int a_cs)) (h_cs : ¬ a_cs = 0) (S_u1 : Sta Z Z.heap "java/nio/charset/StandardCharsets" "UTF_8" "Ljava/nio/charset/Charset;" (.ref a_utf)) (S_u2 : Sta Z Z.heap "sun/nio/cs/UTF_8" "INSTANCE" "Lsun/nio/cs/UTF_8;" (.ref a_utf)) :
    MetFree l x (head1 (Jvm.Cond.code x code maxLocals ret :: ws) room_1) (fun a U => a = #[(.int p1), (.int p2), (.int p3)] ∧ Z.Warmed39 U.vm ∧ U.heap = h0) (fun _ _ _ _ _ => True) (fun _ U o U' => ∃ v L, o = .returned v ∧ own_law_Q Z n0 v U'.heap L ∧ FrameEnd U o U' L 16 128) := by
  refine MetFree.of_bodySF own_pn16 hisR ?_
  intro p e s m args below meth c s₁ Bd hml0 hP hK
  obtain ⟨rfl, hZ, hh⟩ := hP
  have hx := Bd.exec
  have hby := Bd.bytes
  have hml : c.maxLocals = 10 := hml0
  have hlk := BodyLoose.notSynchronized Bd
  have hown : s.vm.findClass "com/example/indri/indri/calls/TopicHasPartitionPinLaw" = some m.cls := findClass_of_methodNamed Bd.named
  have hnm := (name_of_methodNamed Bd.named Bd.method).1
  have X0 : Stand p l e room_1 s m #[(.int p1), (.int p2), (.int p3)] below meth c s₁ [] 0 0 := Stand.of_body Bd
  have e0 : s₁.heap = h0 := by rw [← hh, Bd.state]; rfl
  have N0 := Fr.nil n0
  have rg := own_rng p2
  have hch := own_char p1
  have hun := own_uns p3 _ rg.1 rg.2
  obtain ⟨hn1, hn2, hn3, hn4, hn5, hn6, hn7⟩ := own_bnd _ rg.1 rg.2
  show own_Go p e below s (own_law_Q Z n0) 16 128 (s₁.setTop (entryFrame m #[(.int p1), (.int p2), (.int p3)] maxLocals))
  rw [own_law_ef]
  show own_Go p e below s _ _ _ (s₁.setTop (mkF m 0 #[.val (.int p1), .val (.int p2), .val (.int p3), .unset, .unset, .unset, .unset, .unset, .unset, .unset] []))
  refine own_st (fun _ k => XT.iconstV X0.here hx rfl (1 : Int32) (hb hby at_0) (by decide) k) ?_
  show own_Go p e below s _ _ _ (s₁.setTop (mkF m 1 #[.val (.int p1), .val (.int p2), .val (.int p3), .unset, .unset, .unset, .unset, .unset, .unset, .unset] [(.int (1 : Int32))]))
  refine own_st (fun _ k => XS.iloadN X0.here hx rfl (hb hby at_1) rfl k) ?_
  show own_Go p e below s _ _ _ (s₁.setTop (mkF m 2 #[.val (.int p1), .val (.int p2), .val (.int p3), .unset, .unset, .unset, .unset, .unset, .unset, .unset] [(.int p2), (.int (1 : Int32))]))
  refine own_st (fun _ k => X0.ldcI hx hown (mvT hZ (hw _ (List.mem_of_getElem? (i := 0) rfl))) rfl (hb hby at_2) k) ?_
  show own_Go p e below s _ _ _ (s₁.setTop (mkF m 4 #[.val (.int p1), .val (.int p2), .val (.int p3), .unset, .unset, .unset, .unset, .unset, .unset, .unset] [(.int (2147483647 : Int32)), (.int p2), (.int (1 : Int32))]))
  refine own_st (fun _ k => XS.iand X0.here hx rfl (hb hby at_4) rfl k) ?_
  show own_Go p e below s _ _ _ (s₁.setTop (mkF m 5 #[.val (.int p1), .val (.int p2), .val (.int p3), .unset, .unset, .unset, .unset, .unset, .unset, .unset] [(.int (p2 &&& (2147483647 : Int32))), (.int (1 : Int32))]))
  refine own_st (fun _ k => X0.ldcI hx hown (mvT hZ (hw _ (List.mem_of_getElem? (i := 1) rfl))) rfl (hb hby at_5) k) ?_
  show own_Go p e below s _ _ _ (s₁.setTop (mkF m 7 #[.val (.int p1), .val (.int p2), .val (.int p3), .unset, .unset, .unset, .unset, .unset, .unset, .unset] [(.int (100000 : Int32)), (.int (p2 &&& (2147483647 : Int32))), (.int (1 : Int32))]))
  refine own_st (fun _ k => iremM X0 hx rfl (hb hby at_7) rfl (by decide) k) ?_
  show own_Go p e below s _ _ _ (s₁.setTop (mkF m 8 #[.val (.int p1), .val (.int p2), .val (.int p3), .unset, .unset, .unset, .unset, .unset, .unset, .unset] [(.int ((p2 &&& (2147483647 : Int32)) % (100000 : Int32))), (.int (1 : Int32))]))
  refine own_st (fun _ k => XS.iadd X0.here hx rfl (hb hby at_8) rfl k) ?_
  show own_Go p e below s _ _ _ (s₁.setTop (mkF m 9 #[.val (.int p1), .val (.int p2), .val (.int p3), .unset, .unset, .unset, .unset, .unset, .unset, .unset] [(.int ((1 : Int32) + ((p2 &&& (2147483647 : Int32)) % (100000 : Int32))))]))
  refine own_st (fun _ k => XS.istoreN X0.here hx rfl (hb hby at_9) rfl (l' := #[.val (.int p1), .val (.int p2), .val (.int p3), .val (.int ((1 : Int32) + ((p2 &&& (2147483647 : Int32)) % (100000 : Int32)))), .unset, .unset, .unset, .unset, .unset, .unset]) rfl k) ?_
  show own_Go p e below s _ _ _ (s₁.setTop (mkF m 10 #[.val (.int p1), .val (.int p2), .val (.int p3), .val (.int ((1 : Int32) + ((p2 &&& (2147483647 : Int32)) % (100000 : Int32)))), .unset, .unset, .unset, .unset, .unset, .unset] []))
  obtain ⟨T182, h182, X182, e182, E182, A182, D182, -, st182⟩ := newO X0 hx hZ hown (hw _ (List.mem_of_getElem? (i := 2) rfl)) (hw _ (List.mem_of_getElem? (i := 3) rfl)) (hw _ (List.mem_of_getElem? (i := 4) rfl)) e0 (g := (mkF m 10 #[.val (.int p1), .val (.int p2), .val (.int p3), .val (.int ((1 : Int32) + ((p2 &&& (2147483647 : Int32)) % (100000 : Int32)))), .unset, .unset, .unset, .unset, .unset, .unset] [])) rfl (hb hby at_10) (by decide) (by decide)
  obtain ⟨b182, g182⟩ : ∃ z, z = h0.size := ⟨_, rfl⟩
  rw [← g182] at A182 D182 st182
  refine own_st st182 ?_
  have Zs183 : n0 ≤ h182.size := Nat.le_trans Z0 E182.1
  have g184 : n0 ≤ b182 := Nat.le_trans Z0 (Nat.le_of_eq g182.symm)
  have F185 : Fld Z h182 b182 "com/example/indri/indri/calls/Topic" "name" "Ljava/lang/String;" .null := D182 (Or.inr (hw _ (List.mem_of_getElem? (i := 83) rfl))) (ty := (.object "java/lang/String")) (by decide)
  have F186 : Fld Z h182 b182 "com/example/indri/indri/calls/Topic" "partitions" "I" (.int (0 : Int32)) := D182 (Or.inr (hw _ (List.mem_of_getElem? (i := 85) rfl))) (ty := .int) (by decide)
  show own_Go p e below s _ _ _ (T182.setTop (mkF m 13 #[.val (.int p1), .val (.int p2), .val (.int p3), .val (.int ((1 : Int32) + ((p2 &&& (2147483647 : Int32)) % (100000 : Int32)))), .unset, .unset, .unset, .unset, .unset, .unset] [(.ref b182)]))
  refine own_st (fun _ k => XS.dup X182.here hx rfl (hb hby at_13) rfl rfl k) ?_
  show own_Go p e below s _ _ _ (T182.setTop (mkF m 14 #[.val (.int p1), .val (.int p2), .val (.int p3), .val (.int ((1 : Int32) + ((p2 &&& (2147483647 : Int32)) % (100000 : Int32)))), .unset, .unset, .unset, .unset, .unset, .unset] [(.ref b182), (.ref b182)]))
  refine own_st (fun _ k => XS.iloadN X182.here hx rfl (hb hby at_14) rfl k) ?_
  show own_Go p e below s _ _ _ (T182.setTop (mkF m 15 #[.val (.int p1), .val (.int p2), .val (.int p3), .val (.int ((1 : Int32) + ((p2 &&& (2147483647 : Int32)) % (100000 : Int32)))), .unset, .unset, .unset, .unset, .unset, .unset] [(.int p1), (.ref b182), (.ref b182)]))
  refine own_st (fun _ k => XT.sipushV X182.here hx rfl (255 : Int32) (hb hby at_15) (by decide) k) ?_
  show own_Go p e below s _ _ _ (T182.setTop (mkF m 18 #[.val (.int p1), .val (.int p2), .val (.int p3), .val (.int ((1 : Int32) + ((p2 &&& (2147483647 : Int32)) % (100000 : Int32)))), .unset, .unset, .unset, .unset, .unset, .unset] [(.int (255 : Int32)), (.int p1), (.ref b182), (.ref b182)]))
  refine own_st (fun _ k => XS.iand X182.here hx rfl (hb hby at_18) rfl k) ?_
  show own_Go p e below s _ _ _ (T182.setTop (mkF m 19 #[.val (.int p1), .val (.int p2), .val (.int p3), .val (.int ((1 : Int32) + ((p2 &&& (2147483647 : Int32)) % (100000 : Int32)))), .unset, .unset, .unset, .unset, .unset, .unset] [(.int (p1 &&& (255 : Int32))), (.ref b182), (.ref b182)]))
  refine own_st (fun _ k => XT.i2c X182.here hx rfl (hb hby at_19) rfl k) ?_
  show own_Go p e below s _ _ _ (T182.setTop (mkF m 20 #[.val (.int p1), .val (.int p2), .val (.int p3), .val (.int ((1 : Int32) + ((p2 &&& (2147483647 : Int32)) % (100000 : Int32)))), .unset, .unset, .unset, .unset, .unset, .unset] [(.int ((p1 &&& (255 : Int32)).toUInt32.toUInt16.toUInt32.toInt32)), (.ref b182), (.ref b182)]))
  have O188 : Old Z n0 h182 := (O0.ext E182)
  obtain ⟨_, _, ⟨T187, L187, k187, n187⟩, -, X187, ⟨Lc187, hQ187, l187, y187, z187⟩, st187⟩ := Jvm.LawKit.callS X182 hx (y := (⟨"java/lang/String", "valueOf", "(C)Ljava/lang/String;"⟩ : MethodName)) hown (mvT hZ (hw _ (List.mem_of_getElem? (i := 5) rfl))) (mvT hZ (hw _ (List.mem_of_getElem? (i := 6) rfl))) (mvT hZ (hw _ (List.mem_of_getElem? (i := 7) rfl))) (mvT hZ (hw _ (List.mem_of_getElem? (i := 8) rfl))) (by decide) (backOf (W := 2) (own_rm_valueOf l Z a0 hw [] ((p1 &&& (255 : Int32)).toUInt32.toUInt16.toUInt32.toInt32) a_cs h182 n0 Zs183 O188 S_cs h_cs hch) hZ (hw _ (List.mem_of_getElem? (i := 8) rfl)) (hw _ (List.mem_of_getElem? (i := 7) rfl)) (by decide) (by decide)) (g := (mkF m 20 #[.val (.int p1), .val (.int p2), .val (.int p3), .val (.int ((1 : Int32) + ((p2 &&& (2147483647 : Int32)) % (100000 : Int32)))), .unset, .unset, .unset, .unset, .unset, .unset] [(.int ((p1 &&& (255 : Int32)).toUInt32.toUInt16.toUInt32.toInt32)), (.ref b182), (.ref b182)])) rfl (by rw [hml]; rfl) (argsL := [(.int ((p1 &&& (255 : Int32)).toUInt32.toUInt16.toUInt32.toInt32))]) (rest := [(.ref b182), (.ref b182)]) (lenOf own_pd13 rfl) rfl (by show 2 * 0 + _ ≤ _; exact Nat.le_of_eq rfl) (hb hby at_20) (fun _ _ => ⟨rfl, e182, (by decide : 1 + 2 ≤ _), (by decide : 2 + 5 ≤ _)⟩)
  dsimp only [Pt.U, Pt.locs, Pt.cells, Pt.slots] at X187 l187 y187 z187 st187 hQ187
  subst l187 y187 z187
  obtain ⟨x189, x190, x191, N187q, rfl, K187, q192, q193, q194, q195, q196, q197, q198⟩ := hQ187
  have N199 := Fr.app N0 N187q
  refine own_st st187 ?_
  have Zs200 : n0 ≤ T187.heap.size := Nat.le_trans Zs183 K187.1
  have g201 : n0 ≤ x189 := Nat.le_trans Zs183 q192
  have g202 : n0 ≤ x190 := Nat.le_trans Zs183 q193
  show own_Go p e below s _ _ _ (T187.setTop (mkF m 23 #[.val (.int p1), .val (.int p2), .val (.int p3), .val (.int ((1 : Int32) + ((p2 &&& (2147483647 : Int32)) % (100000 : Int32)))), .unset, .unset, .unset, .unset, .unset, .unset] [(.ref x189), (.ref b182), (.ref b182)]))
  refine own_st (fun _ k => XS.iloadN X187.here hx rfl (hb hby at_23) rfl k) ?_
  show own_Go p e below s _ _ _ (T187.setTop (mkF m 24 #[.val (.int p1), .val (.int p2), .val (.int p3), .val (.int ((1 : Int32) + ((p2 &&& (2147483647 : Int32)) % (100000 : Int32)))), .unset, .unset, .unset, .unset, .unset, .unset] [(.int ((1 : Int32) + ((p2 &&& (2147483647 : Int32)) % (100000 : Int32)))), (.ref x189), (.ref b182), (.ref b182)]))
  have F204 : Exa Z T187.heap b182 "com/example/indri/indri/calls/Topic" := (A182.keep K187)
  have F205 : Fld Z T187.heap b182 "com/example/indri/indri/calls/Topic" "name" "Ljava/lang/String;" .null := (F185.keep K187 nin0)
  have F206 : Fld Z T187.heap b182 "com/example/indri/indri/calls/Topic" "partitions" "I" (.int (0 : Int32)) := (F186.keep K187 nin0)
  have O207 : Old Z n0 T187.heap := (O188.keep K187 all0)
  obtain ⟨_, _, ⟨T203, L203, k203, n203⟩, -, X203, ⟨Lc203, hQ203, l203, y203, z203⟩, st203⟩ := X187.specialBack hx (y := (⟨"com/example/indri/indri/calls/Topic", "<init>", "(Ljava/lang/String;I)V"⟩ : MethodName)) rfl hown (mvT hZ (hw _ (List.mem_of_getElem? (i := 31) rfl))) (mvT hZ (hw _ (List.mem_of_getElem? (i := 32) rfl))) (mvT hZ (hw _ (List.mem_of_getElem? (i := 33) rfl))) (by decide) (backOf (W := 1) (own_rm_tinit l Z a0 hw [] b182 x189 ((1 : Int32) + ((p2 &&& (2147483647 : Int32)) % (100000 : Int32))) a_utf a_cs x190 x191 (nar .byte (((p1 &&& (255 : Int32)).toUInt32.toUInt16.toUInt32.toInt32).toInt8.toInt32)) T187.heap n0 Zs200 O207 S_u1 S_u2 S_cs h_cs q195 q196 q198 q197 q194 F204 F205 F206 g184 hn1 hn2) hZ (hw _ (List.mem_of_getElem? (i := 33) rfl)) (hw _ (List.mem_of_getElem? (i := 4) rfl)) (by decide) (by decide)) (g := (mkF m 24 #[.val (.int p1), .val (.int p2), .val (.int p3), .val (.int ((1 : Int32) + ((p2 &&& (2147483647 : Int32)) % (100000 : Int32)))), .unset, .unset, .unset, .unset, .unset, .unset] [(.int ((1 : Int32) + ((p2 &&& (2147483647 : Int32)) % (100000 : Int32)))), (.ref x189), (.ref b182), (.ref b182)])) rfl (by rw [hml]; rfl) (Steps.refl _) (a := b182) (argsL := [(.ref x189), (.int ((1 : Int32) + ((p2 &&& (2147483647 : Int32)) % (100000 : Int32))))]) (rest := [(.ref b182)]) (lenOf own_pd14 rfl) rfl (by show 2 * 0 + _ ≤ _; exact Nat.le_of_eq rfl) (hb hby at_24) (fun _ _ => ⟨rfl, rfl, (by decide : 3 + 1 ≤ _), (by decide : 7 + 2 ≤ _)⟩)
  dsimp only [Pt.U, Pt.locs, Pt.cells, Pt.slots] at X203 l203 y203 z203 st203 hQ203
  subst l203 y203 z203
  obtain ⟨N203q, rfl, K203, q208, q209⟩ := hQ203
  have N210 := Fr.app N199 N203q
  refine own_tr st203 ?_
  have Zs211 : n0 ≤ T203.heap.size := Nat.le_trans Zs200 K203.1
  show own_Go p e below s _ _ _ (T203.setTop (mkF m 27 #[.val (.int p1), .val (.int p2), .val (.int p3), .val (.int ((1 : Int32) + ((p2 &&& (2147483647 : Int32)) % (100000 : Int32)))), .unset, .unset, .unset, .unset, .unset, .unset] [(.ref b182)]))
  refine own_st (fun _ k => XS.astore X203.here hx rfl (hb hby at_27) rfl rfl (l' := #[.val (.int p1), .val (.int p2), .val (.int p3), .val (.int ((1 : Int32) + ((p2 &&& (2147483647 : Int32)) % (100000 : Int32)))), .val (.ref b182), .unset, .unset, .unset, .unset, .unset]) rfl k) ?_
  show own_Go p e below s _ _ _ (T203.setTop (mkF m 29 #[.val (.int p1), .val (.int p2), .val (.int p3), .val (.int ((1 : Int32) + ((p2 &&& (2147483647 : Int32)) % (100000 : Int32)))), .val (.ref b182), .unset, .unset, .unset, .unset, .unset] []))
  refine own_st (fun _ k => XS.iloadN X203.here hx rfl (hb hby at_29) rfl k) ?_
  show own_Go p e below s _ _ _ (T203.setTop (mkF m 30 #[.val (.int p1), .val (.int p2), .val (.int p3), .val (.int ((1 : Int32) + ((p2 &&& (2147483647 : Int32)) % (100000 : Int32)))), .val (.ref b182), .unset, .unset, .unset, .unset, .unset] [(.int p3)]))
  refine own_st (fun _ k => XT.i2l X203.here hx rfl (hb hby at_30) rfl k) ?_
  show own_Go p e below s _ _ _ (T203.setTop (mkF m 31 #[.val (.int p1), .val (.int p2), .val (.int p3), .val (.int ((1 : Int32) + ((p2 &&& (2147483647 : Int32)) % (100000 : Int32)))), .val (.ref b182), .unset, .unset, .unset, .unset, .unset] [(.long (p3.toInt64))]))
  refine own_st (fun _ k => X203.ldc2J hx hown (mvT hZ (hw _ (List.mem_of_getElem? (i := 86) rfl))) rfl (hb hby at_31) k) ?_
  show own_Go p e below s _ _ _ (T203.setTop (mkF m 34 #[.val (.int p1), .val (.int p2), .val (.int p3), .val (.int ((1 : Int32) + ((p2 &&& (2147483647 : Int32)) % (100000 : Int32)))), .val (.ref b182), .unset, .unset, .unset, .unset, .unset] [(.long (4294967295 : Int64)), (.long (p3.toInt64))]))
  refine own_st (fun _ k => XT.land X203.here hx rfl (hb hby at_34) rfl k) ?_
  show own_Go p e below s _ _ _ (T203.setTop (mkF m 35 #[.val (.int p1), .val (.int p2), .val (.int p3), .val (.int ((1 : Int32) + ((p2 &&& (2147483647 : Int32)) % (100000 : Int32)))), .val (.ref b182), .unset, .unset, .unset, .unset, .unset] [(.long ((p3.toInt64) &&& (4294967295 : Int64)))]))
  refine own_st (fun _ k => XT.lstore X203.here hx rfl (hb hby at_35) rfl (l' := #[.val (.int p1), .val (.int p2), .val (.int p3), .val (.int ((1 : Int32) + ((p2 &&& (2147483647 : Int32)) % (100000 : Int32)))), .val (.ref b182), .val (.long ((p3.toInt64) &&& (4294967295 : Int64))), .second, .unset, .unset, .unset]) rfl k) ?_
  show own_Go p e below s _ _ _ (T203.setTop (mkF m 37 #[.val (.int p1), .val (.int p2), .val (.int p3), .val (.int ((1 : Int32) + ((p2 &&& (2147483647 : Int32)) % (100000 : Int32)))), .val (.ref b182), .val (.long ((p3.toInt64) &&& (4294967295 : Int64))), .second, .unset, .unset, .unset] []))
  refine own_st (fun _ k => XT.lload X203.here hx rfl (hb hby at_37) rfl k) ?_
  show own_Go p e below s _ _ _ (T203.setTop (mkF m 39 #[.val (.int p1), .val (.int p2), .val (.int p3), .val (.int ((1 : Int32) + ((p2 &&& (2147483647 : Int32)) % (100000 : Int32)))), .val (.ref b182), .val (.long ((p3.toInt64) &&& (4294967295 : Int64))), .second, .unset, .unset, .unset] [(.long ((p3.toInt64) &&& (4294967295 : Int64)))]))
  refine own_st (fun _ k => XS.iloadN X203.here hx rfl (hb hby at_39) rfl k) ?_
  show own_Go p e below s _ _ _ (T203.setTop (mkF m 40 #[.val (.int p1), .val (.int p2), .val (.int p3), .val (.int ((1 : Int32) + ((p2 &&& (2147483647 : Int32)) % (100000 : Int32)))), .val (.ref b182), .val (.long ((p3.toInt64) &&& (4294967295 : Int64))), .second, .unset, .unset, .unset] [(.int ((1 : Int32) + ((p2 &&& (2147483647 : Int32)) % (100000 : Int32)))), (.long ((p3.toInt64) &&& (4294967295 : Int64)))]))
  refine own_st (fun _ k => XT.i2l X203.here hx rfl (hb hby at_40) rfl k) ?_
  show own_Go p e below s _ _ _ (T203.setTop (mkF m 41 #[.val (.int p1), .val (.int p2), .val (.int p3), .val (.int ((1 : Int32) + ((p2 &&& (2147483647 : Int32)) % (100000 : Int32)))), .val (.ref b182), .val (.long ((p3.toInt64) &&& (4294967295 : Int64))), .second, .unset, .unset, .unset] [(.long (((1 : Int32) + ((p2 &&& (2147483647 : Int32)) % (100000 : Int32))).toInt64)), (.long ((p3.toInt64) &&& (4294967295 : Int64)))]))
  refine own_st (fun _ k => XT.lcmp X203.here hx rfl (hb hby at_41) rfl k) ?_
  show own_Go p e below s _ _ _ (T203.setTop (mkF m 42 #[.val (.int p1), .val (.int p2), .val (.int p3), .val (.int ((1 : Int32) + ((p2 &&& (2147483647 : Int32)) % (100000 : Int32)))), .val (.ref b182), .val (.long ((p3.toInt64) &&& (4294967295 : Int64))), .second, .unset, .unset, .unset] [(.int (XT.cmpL ((p3.toInt64) &&& (4294967295 : Int64)) (((1 : Int32) + ((p2 &&& (2147483647 : Int32)) % (100000 : Int32))).toInt64)))]))
  by_cases hc212 : ((p3.toInt64) &&& (4294967295 : Int64)) < (((1 : Int32) + ((p2 &&& (2147483647 : Int32)) % (100000 : Int32))).toInt64)
  · refine own_st (fun _ k => XS.ifNo X203.here hx rfl (hb hby at_42) rfl (XT.ll_ge_f hc212) k) ?_
    show own_Go p e below s _ _ _ (T203.setTop (mkF m 45 #[.val (.int p1), .val (.int p2), .val (.int p3), .val (.int ((1 : Int32) + ((p2 &&& (2147483647 : Int32)) % (100000 : Int32)))), .val (.ref b182), .val (.long ((p3.toInt64) &&& (4294967295 : Int64))), .second, .unset, .unset, .unset] []))
    refine own_st (fun _ k => XT.iconstV X203.here hx rfl (1 : Int32) (hb hby at_45) (by decide) k) ?_
    show own_Go p e below s _ _ _ (T203.setTop (mkF m 46 #[.val (.int p1), .val (.int p2), .val (.int p3), .val (.int ((1 : Int32) + ((p2 &&& (2147483647 : Int32)) % (100000 : Int32)))), .val (.ref b182), .val (.long ((p3.toInt64) &&& (4294967295 : Int64))), .second, .unset, .unset, .unset] [(.int (1 : Int32))]))
    refine own_st (fun _ k => XS.goto X203.here hx rfl (pc0 := 46) (pc' := 50) rfl (hb hby at_46) (by decide) (by decide) k) ?_
    show own_Go p e below s _ _ _ (T203.setTop (mkF m 50 #[.val (.int p1), .val (.int p2), .val (.int p3), .val (.int ((1 : Int32) + ((p2 &&& (2147483647 : Int32)) % (100000 : Int32)))), .val (.ref b182), .val (.long ((p3.toInt64) &&& (4294967295 : Int64))), .second, .unset, .unset, .unset] [(.int (1 : Int32))]))
    refine own_st (fun _ k => XS.istore X203.here hx rfl (hb hby at_50) rfl (l' := #[.val (.int p1), .val (.int p2), .val (.int p3), .val (.int ((1 : Int32) + ((p2 &&& (2147483647 : Int32)) % (100000 : Int32)))), .val (.ref b182), .val (.long ((p3.toInt64) &&& (4294967295 : Int64))), .second, .val (.int (1 : Int32)), .unset, .unset]) rfl k) ?_
    show own_Go p e below s _ _ _ (T203.setTop (mkF m 52 #[.val (.int p1), .val (.int p2), .val (.int p3), .val (.int ((1 : Int32) + ((p2 &&& (2147483647 : Int32)) % (100000 : Int32)))), .val (.ref b182), .val (.long ((p3.toInt64) &&& (4294967295 : Int64))), .second, .val (.int (1 : Int32)), .unset, .unset] []))
    refine own_st (fun _ k => XS.aload X203.here hx rfl (hb hby at_52) rfl rfl k) ?_
    show own_Go p e below s _ _ _ (T203.setTop (mkF m 54 #[.val (.int p1), .val (.int p2), .val (.int p3), .val (.int ((1 : Int32) + ((p2 &&& (2147483647 : Int32)) % (100000 : Int32)))), .val (.ref b182), .val (.long ((p3.toInt64) &&& (4294967295 : Int64))), .second, .val (.int (1 : Int32)), .unset, .unset] [(.ref b182)]))
    refine own_st (fun _ k => XS.iloadN X203.here hx rfl (hb hby at_54) rfl k) ?_
    show own_Go p e below s _ _ _ (T203.setTop (mkF m 55 #[.val (.int p1), .val (.int p2), .val (.int p3), .val (.int ((1 : Int32) + ((p2 &&& (2147483647 : Int32)) % (100000 : Int32)))), .val (.ref b182), .val (.long ((p3.toInt64) &&& (4294967295 : Int64))), .second, .val (.int (1 : Int32)), .unset, .unset] [(.int p3), (.ref b182)]))
    obtain ⟨cq213, kq213, q213a, q213b, q213c⟩ := isOf hZ rfl q208
    obtain ⟨_, _, ⟨T213, L213, k213, n213⟩, -, X213, ⟨Lc213, hQ213, l213, y213, z213⟩, st213⟩ := X203.virtualBack hx (y := (⟨"com/example/indri/indri/calls/Topic", "hasPartition", "(I)Z"⟩ : MethodName)) (z := (⟨"com/example/indri/indri/calls/Topic", "hasPartition", "(I)Z"⟩ : MethodName)) hown (mvT hZ (hw _ (List.mem_of_getElem? (i := 87) rfl))) (mvT hZ (hw _ (List.mem_of_getElem? (i := 88) rfl))) (notFace_of_selects (args := #[]) (mvT hZ (hw _ (List.mem_of_getElem? (i := 90) rfl)))) (mvT hZ (hw _ (List.mem_of_getElem? (i := 90) rfl))) (mvT hZ (hw _ (List.mem_of_getElem? (i := 89) rfl))) (by decide) (backOf (W := 0) (own_rm_hp l Z a0 hw [] b182 p3 ((1 : Int32) + ((p2 &&& (2147483647 : Int32)) % (100000 : Int32))) T203.heap n0 Zs211 q209) hZ (hw _ (List.mem_of_getElem? (i := 91) rfl)) (hw _ (List.mem_of_getElem? (i := 4) rfl)) (by decide) (by decide)) q213a q213c (g := (mkF m 55 #[.val (.int p1), .val (.int p2), .val (.int p3), .val (.int ((1 : Int32) + ((p2 &&& (2147483647 : Int32)) % (100000 : Int32)))), .val (.ref b182), .val (.long ((p3.toInt64) &&& (4294967295 : Int64))), .second, .val (.int (1 : Int32)), .unset, .unset] [(.int p3), (.ref b182)])) rfl (by rw [hml]; rfl) (Steps.refl _) (argsL := [(.int p3)]) (rest := []) (lenOf own_pd15 rfl) rfl (by show 2 * 0 + _ ≤ _; exact Nat.le_of_eq rfl) (hb hby at_55) (fun _ _ => ⟨rfl, rfl, (by decide : 4 + 0 ≤ _), (by decide : 9 + 0 ≤ _)⟩)
    dsimp only [Pt.U, Pt.locs, Pt.cells, Pt.slots] at X213 l213 y213 z213 st213 hQ213
    subst l213 y213 z213
    obtain ⟨N213q, rfl, eh213⟩ := hQ213
    have N214 := Fr.app N210 N213q
    refine own_tr st213 ?_
    show own_Go p e below s _ _ _ (T213.setTop (mkF m 58 #[.val (.int p1), .val (.int p2), .val (.int p3), .val (.int ((1 : Int32) + ((p2 &&& (2147483647 : Int32)) % (100000 : Int32)))), .val (.ref b182), .val (.long ((p3.toInt64) &&& (4294967295 : Int64))), .second, .val (.int (1 : Int32)), .unset, .unset] [(.int (if p3 < 0 then (0 : Int32) else if p3 < ((1 : Int32) + ((p2 &&& (2147483647 : Int32)) % (100000 : Int32))) then 1 else 0))]))
    refine own_st (fun _ k => XS.istore X213.here hx rfl (hb hby at_58) rfl (l' := #[.val (.int p1), .val (.int p2), .val (.int p3), .val (.int ((1 : Int32) + ((p2 &&& (2147483647 : Int32)) % (100000 : Int32)))), .val (.ref b182), .val (.long ((p3.toInt64) &&& (4294967295 : Int64))), .second, .val (.int (1 : Int32)), .val (.int (if p3 < 0 then (0 : Int32) else if p3 < ((1 : Int32) + ((p2 &&& (2147483647 : Int32)) % (100000 : Int32))) then 1 else 0)), .unset]) rfl k) ?_
    show own_Go p e below s _ _ _ (T213.setTop (mkF m 60 #[.val (.int p1), .val (.int p2), .val (.int p3), .val (.int ((1 : Int32) + ((p2 &&& (2147483647 : Int32)) % (100000 : Int32)))), .val (.ref b182), .val (.long ((p3.toInt64) &&& (4294967295 : Int64))), .second, .val (.int (1 : Int32)), .val (.int (if p3 < 0 then (0 : Int32) else if p3 < ((1 : Int32) + ((p2 &&& (2147483647 : Int32)) % (100000 : Int32))) then 1 else 0)), .unset] []))
    refine own_st (fun _ k => XS.aload X213.here hx rfl (hb hby at_60) rfl rfl k) ?_
    show own_Go p e below s _ _ _ (T213.setTop (mkF m 62 #[.val (.int p1), .val (.int p2), .val (.int p3), .val (.int ((1 : Int32) + ((p2 &&& (2147483647 : Int32)) % (100000 : Int32)))), .val (.ref b182), .val (.long ((p3.toInt64) &&& (4294967295 : Int64))), .second, .val (.int (1 : Int32)), .val (.int (if p3 < 0 then (0 : Int32) else if p3 < ((1 : Int32) + ((p2 &&& (2147483647 : Int32)) % (100000 : Int32))) then 1 else 0)), .unset] [(.ref b182)]))
    refine own_st (fun _ k => XT.iconstV X213.here hx rfl (0 : Int32) (hb hby at_62) (by decide) k) ?_
    show own_Go p e below s _ _ _ (T213.setTop (mkF m 63 #[.val (.int p1), .val (.int p2), .val (.int p3), .val (.int ((1 : Int32) + ((p2 &&& (2147483647 : Int32)) % (100000 : Int32)))), .val (.ref b182), .val (.long ((p3.toInt64) &&& (4294967295 : Int64))), .second, .val (.int (1 : Int32)), .val (.int (if p3 < 0 then (0 : Int32) else if p3 < ((1 : Int32) + ((p2 &&& (2147483647 : Int32)) % (100000 : Int32))) then 1 else 0)), .unset] [(.int (0 : Int32)), (.ref b182)]))
    obtain ⟨cq215, kq215, q215a, q215b, q215c⟩ := isOf hZ eh213 q208
    obtain ⟨_, _, ⟨T215, L215, k215, n215⟩, -, X215, ⟨Lc215, hQ215, l215, y215, z215⟩, st215⟩ := X213.virtualBack hx (y := (⟨"com/example/indri/indri/calls/Topic", "hasPartition", "(I)Z"⟩ : MethodName)) (z := (⟨"com/example/indri/indri/calls/Topic", "hasPartition", "(I)Z"⟩ : MethodName)) hown (mvT hZ (hw _ (List.mem_of_getElem? (i := 87) rfl))) (mvT hZ (hw _ (List.mem_of_getElem? (i := 88) rfl))) (notFace_of_selects (args := #[]) (mvT hZ (hw _ (List.mem_of_getElem? (i := 90) rfl)))) (mvT hZ (hw _ (List.mem_of_getElem? (i := 90) rfl))) (mvT hZ (hw _ (List.mem_of_getElem? (i := 89) rfl))) (by decide) (backOf (W := 0) (own_rm_hp l Z a0 hw [] b182 (0 : Int32) ((1 : Int32) + ((p2 &&& (2147483647 : Int32)) % (100000 : Int32))) T203.heap n0 Zs211 q209) hZ (hw _ (List.mem_of_getElem? (i := 91) rfl)) (hw _ (List.mem_of_getElem? (i := 4) rfl)) (by decide) (by decide)) q215a q215c (g := (mkF m 63 #[.val (.int p1), .val (.int p2), .val (.int p3), .val (.int ((1 : Int32) + ((p2 &&& (2147483647 : Int32)) % (100000 : Int32)))), .val (.ref b182), .val (.long ((p3.toInt64) &&& (4294967295 : Int64))), .second, .val (.int (1 : Int32)), .val (.int (if p3 < 0 then (0 : Int32) else if p3 < ((1 : Int32) + ((p2 &&& (2147483647 : Int32)) % (100000 : Int32))) then 1 else 0)), .unset] [(.int (0 : Int32)), (.ref b182)])) rfl (by rw [hml]; rfl) (Steps.refl _) (argsL := [(.int (0 : Int32))]) (rest := []) (lenOf own_pd15 rfl) rfl (by show 2 * 0 + _ ≤ _; exact Nat.le_of_eq rfl) (hb hby at_63) (fun _ _ => ⟨rfl, eh213, (by decide : 4 + 0 ≤ _), (by decide : 9 + 0 ≤ _)⟩)
    dsimp only [Pt.U, Pt.locs, Pt.cells, Pt.slots] at X215 l215 y215 z215 st215 hQ215
    subst l215 y215 z215
    obtain ⟨N215q, rfl, eh215⟩ := hQ215
    have N216 := Fr.app N214 N215q
    refine own_tr st215 ?_
    show own_Go p e below s _ _ _ (T215.setTop (mkF m 66 #[.val (.int p1), .val (.int p2), .val (.int p3), .val (.int ((1 : Int32) + ((p2 &&& (2147483647 : Int32)) % (100000 : Int32)))), .val (.ref b182), .val (.long ((p3.toInt64) &&& (4294967295 : Int64))), .second, .val (.int (1 : Int32)), .val (.int (if p3 < 0 then (0 : Int32) else if p3 < ((1 : Int32) + ((p2 &&& (2147483647 : Int32)) % (100000 : Int32))) then 1 else 0)), .unset] [(.int (if (0 : Int32) < 0 then (0 : Int32) else if (0 : Int32) < ((1 : Int32) + ((p2 &&& (2147483647 : Int32)) % (100000 : Int32))) then 1 else 0))]))
    refine own_st (fun _ k => XS.ifNo X215.here hx rfl (hb hby at_66) rfl (XT.i0_eq_f (by simp [hn3])) k) ?_
    show own_Go p e below s _ _ _ (T215.setTop (mkF m 69 #[.val (.int p1), .val (.int p2), .val (.int p3), .val (.int ((1 : Int32) + ((p2 &&& (2147483647 : Int32)) % (100000 : Int32)))), .val (.ref b182), .val (.long ((p3.toInt64) &&& (4294967295 : Int64))), .second, .val (.int (1 : Int32)), .val (.int (if p3 < 0 then (0 : Int32) else if p3 < ((1 : Int32) + ((p2 &&& (2147483647 : Int32)) % (100000 : Int32))) then 1 else 0)), .unset] []))
    refine own_st (fun _ k => XS.aload X215.here hx rfl (hb hby at_69) rfl rfl k) ?_
    show own_Go p e below s _ _ _ (T215.setTop (mkF m 71 #[.val (.int p1), .val (.int p2), .val (.int p3), .val (.int ((1 : Int32) + ((p2 &&& (2147483647 : Int32)) % (100000 : Int32)))), .val (.ref b182), .val (.long ((p3.toInt64) &&& (4294967295 : Int64))), .second, .val (.int (1 : Int32)), .val (.int (if p3 < 0 then (0 : Int32) else if p3 < ((1 : Int32) + ((p2 &&& (2147483647 : Int32)) % (100000 : Int32))) then 1 else 0)), .unset] [(.ref b182)]))
    refine own_st (fun _ k => XS.iloadN X215.here hx rfl (hb hby at_71) rfl k) ?_
    show own_Go p e below s _ _ _ (T215.setTop (mkF m 72 #[.val (.int p1), .val (.int p2), .val (.int p3), .val (.int ((1 : Int32) + ((p2 &&& (2147483647 : Int32)) % (100000 : Int32)))), .val (.ref b182), .val (.long ((p3.toInt64) &&& (4294967295 : Int64))), .second, .val (.int (1 : Int32)), .val (.int (if p3 < 0 then (0 : Int32) else if p3 < ((1 : Int32) + ((p2 &&& (2147483647 : Int32)) % (100000 : Int32))) then 1 else 0)), .unset] [(.int ((1 : Int32) + ((p2 &&& (2147483647 : Int32)) % (100000 : Int32)))), (.ref b182)]))
    refine own_st (fun _ k => XT.iconstV X215.here hx rfl (1 : Int32) (hb hby at_72) (by decide) k) ?_
    show own_Go p e below s _ _ _ (T215.setTop (mkF m 73 #[.val (.int p1), .val (.int p2), .val (.int p3), .val (.int ((1 : Int32) + ((p2 &&& (2147483647 : Int32)) % (100000 : Int32)))), .val (.ref b182), .val (.long ((p3.toInt64) &&& (4294967295 : Int64))), .second, .val (.int (1 : Int32)), .val (.int (if p3 < 0 then (0 : Int32) else if p3 < ((1 : Int32) + ((p2 &&& (2147483647 : Int32)) % (100000 : Int32))) then 1 else 0)), .unset] [(.int (1 : Int32)), (.int ((1 : Int32) + ((p2 &&& (2147483647 : Int32)) % (100000 : Int32)))), (.ref b182)]))
    refine own_st (fun _ k => XS.isub X215.here hx rfl (hb hby at_73) rfl k) ?_
    show own_Go p e below s _ _ _ (T215.setTop (mkF m 74 #[.val (.int p1), .val (.int p2), .val (.int p3), .val (.int ((1 : Int32) + ((p2 &&& (2147483647 : Int32)) % (100000 : Int32)))), .val (.ref b182), .val (.long ((p3.toInt64) &&& (4294967295 : Int64))), .second, .val (.int (1 : Int32)), .val (.int (if p3 < 0 then (0 : Int32) else if p3 < ((1 : Int32) + ((p2 &&& (2147483647 : Int32)) % (100000 : Int32))) then 1 else 0)), .unset] [(.int (((1 : Int32) + ((p2 &&& (2147483647 : Int32)) % (100000 : Int32))) - (1 : Int32))), (.ref b182)]))
    obtain ⟨cq217, kq217, q217a, q217b, q217c⟩ := isOf hZ eh215 q208
    obtain ⟨_, _, ⟨T217, L217, k217, n217⟩, -, X217, ⟨Lc217, hQ217, l217, y217, z217⟩, st217⟩ := X215.virtualBack hx (y := (⟨"com/example/indri/indri/calls/Topic", "hasPartition", "(I)Z"⟩ : MethodName)) (z := (⟨"com/example/indri/indri/calls/Topic", "hasPartition", "(I)Z"⟩ : MethodName)) hown (mvT hZ (hw _ (List.mem_of_getElem? (i := 87) rfl))) (mvT hZ (hw _ (List.mem_of_getElem? (i := 88) rfl))) (notFace_of_selects (args := #[]) (mvT hZ (hw _ (List.mem_of_getElem? (i := 90) rfl)))) (mvT hZ (hw _ (List.mem_of_getElem? (i := 90) rfl))) (mvT hZ (hw _ (List.mem_of_getElem? (i := 89) rfl))) (by decide) (backOf (W := 0) (own_rm_hp l Z a0 hw [] b182 (((1 : Int32) + ((p2 &&& (2147483647 : Int32)) % (100000 : Int32))) - (1 : Int32)) ((1 : Int32) + ((p2 &&& (2147483647 : Int32)) % (100000 : Int32))) T203.heap n0 Zs211 q209) hZ (hw _ (List.mem_of_getElem? (i := 91) rfl)) (hw _ (List.mem_of_getElem? (i := 4) rfl)) (by decide) (by decide)) q217a q217c (g := (mkF m 74 #[.val (.int p1), .val (.int p2), .val (.int p3), .val (.int ((1 : Int32) + ((p2 &&& (2147483647 : Int32)) % (100000 : Int32)))), .val (.ref b182), .val (.long ((p3.toInt64) &&& (4294967295 : Int64))), .second, .val (.int (1 : Int32)), .val (.int (if p3 < 0 then (0 : Int32) else if p3 < ((1 : Int32) + ((p2 &&& (2147483647 : Int32)) % (100000 : Int32))) then 1 else 0)), .unset] [(.int (((1 : Int32) + ((p2 &&& (2147483647 : Int32)) % (100000 : Int32))) - (1 : Int32))), (.ref b182)])) rfl (by rw [hml]; rfl) (Steps.refl _) (argsL := [(.int (((1 : Int32) + ((p2 &&& (2147483647 : Int32)) % (100000 : Int32))) - (1 : Int32)))]) (rest := []) (lenOf own_pd15 rfl) rfl (by show 2 * 0 + _ ≤ _; exact Nat.le_of_eq rfl) (hb hby at_74) (fun _ _ => ⟨rfl, eh215, (by decide : 4 + 0 ≤ _), (by decide : 9 + 0 ≤ _)⟩)
    dsimp only [Pt.U, Pt.locs, Pt.cells, Pt.slots] at X217 l217 y217 z217 st217 hQ217
    subst l217 y217 z217
    obtain ⟨N217q, rfl, eh217⟩ := hQ217
    have N218 := Fr.app N216 N217q
    refine own_tr st217 ?_
    show own_Go p e below s _ _ _ (T217.setTop (mkF m 77 #[.val (.int p1), .val (.int p2), .val (.int p3), .val (.int ((1 : Int32) + ((p2 &&& (2147483647 : Int32)) % (100000 : Int32)))), .val (.ref b182), .val (.long ((p3.toInt64) &&& (4294967295 : Int64))), .second, .val (.int (1 : Int32)), .val (.int (if p3 < 0 then (0 : Int32) else if p3 < ((1 : Int32) + ((p2 &&& (2147483647 : Int32)) % (100000 : Int32))) then 1 else 0)), .unset] [(.int (if (((1 : Int32) + ((p2 &&& (2147483647 : Int32)) % (100000 : Int32))) - (1 : Int32)) < 0 then (0 : Int32) else if (((1 : Int32) + ((p2 &&& (2147483647 : Int32)) % (100000 : Int32))) - (1 : Int32)) < ((1 : Int32) + ((p2 &&& (2147483647 : Int32)) % (100000 : Int32))) then 1 else 0))]))
    refine own_st (fun _ k => XS.ifNo X217.here hx rfl (hb hby at_77) rfl (XT.i0_eq_f (by simp [hn4, hn5])) k) ?_
    show own_Go p e below s _ _ _ (T217.setTop (mkF m 80 #[.val (.int p1), .val (.int p2), .val (.int p3), .val (.int ((1 : Int32) + ((p2 &&& (2147483647 : Int32)) % (100000 : Int32)))), .val (.ref b182), .val (.long ((p3.toInt64) &&& (4294967295 : Int64))), .second, .val (.int (1 : Int32)), .val (.int (if p3 < 0 then (0 : Int32) else if p3 < ((1 : Int32) + ((p2 &&& (2147483647 : Int32)) % (100000 : Int32))) then 1 else 0)), .unset] []))
    refine own_st (fun _ k => XS.aload X217.here hx rfl (hb hby at_80) rfl rfl k) ?_
    show own_Go p e below s _ _ _ (T217.setTop (mkF m 82 #[.val (.int p1), .val (.int p2), .val (.int p3), .val (.int ((1 : Int32) + ((p2 &&& (2147483647 : Int32)) % (100000 : Int32)))), .val (.ref b182), .val (.long ((p3.toInt64) &&& (4294967295 : Int64))), .second, .val (.int (1 : Int32)), .val (.int (if p3 < 0 then (0 : Int32) else if p3 < ((1 : Int32) + ((p2 &&& (2147483647 : Int32)) % (100000 : Int32))) then 1 else 0)), .unset] [(.ref b182)]))
    refine own_st (fun _ k => XS.iloadN X217.here hx rfl (hb hby at_82) rfl k) ?_
    show own_Go p e below s _ _ _ (T217.setTop (mkF m 83 #[.val (.int p1), .val (.int p2), .val (.int p3), .val (.int ((1 : Int32) + ((p2 &&& (2147483647 : Int32)) % (100000 : Int32)))), .val (.ref b182), .val (.long ((p3.toInt64) &&& (4294967295 : Int64))), .second, .val (.int (1 : Int32)), .val (.int (if p3 < 0 then (0 : Int32) else if p3 < ((1 : Int32) + ((p2 &&& (2147483647 : Int32)) % (100000 : Int32))) then 1 else 0)), .unset] [(.int ((1 : Int32) + ((p2 &&& (2147483647 : Int32)) % (100000 : Int32)))), (.ref b182)]))
    obtain ⟨cq219, kq219, q219a, q219b, q219c⟩ := isOf hZ eh217 q208
    obtain ⟨_, _, ⟨T219, L219, k219, n219⟩, -, X219, ⟨Lc219, hQ219, l219, y219, z219⟩, st219⟩ := X217.virtualBack hx (y := (⟨"com/example/indri/indri/calls/Topic", "hasPartition", "(I)Z"⟩ : MethodName)) (z := (⟨"com/example/indri/indri/calls/Topic", "hasPartition", "(I)Z"⟩ : MethodName)) hown (mvT hZ (hw _ (List.mem_of_getElem? (i := 87) rfl))) (mvT hZ (hw _ (List.mem_of_getElem? (i := 88) rfl))) (notFace_of_selects (args := #[]) (mvT hZ (hw _ (List.mem_of_getElem? (i := 90) rfl)))) (mvT hZ (hw _ (List.mem_of_getElem? (i := 90) rfl))) (mvT hZ (hw _ (List.mem_of_getElem? (i := 89) rfl))) (by decide) (backOf (W := 0) (own_rm_hp l Z a0 hw [] b182 ((1 : Int32) + ((p2 &&& (2147483647 : Int32)) % (100000 : Int32))) ((1 : Int32) + ((p2 &&& (2147483647 : Int32)) % (100000 : Int32))) T203.heap n0 Zs211 q209) hZ (hw _ (List.mem_of_getElem? (i := 91) rfl)) (hw _ (List.mem_of_getElem? (i := 4) rfl)) (by decide) (by decide)) q219a q219c (g := (mkF m 83 #[.val (.int p1), .val (.int p2), .val (.int p3), .val (.int ((1 : Int32) + ((p2 &&& (2147483647 : Int32)) % (100000 : Int32)))), .val (.ref b182), .val (.long ((p3.toInt64) &&& (4294967295 : Int64))), .second, .val (.int (1 : Int32)), .val (.int (if p3 < 0 then (0 : Int32) else if p3 < ((1 : Int32) + ((p2 &&& (2147483647 : Int32)) % (100000 : Int32))) then 1 else 0)), .unset] [(.int ((1 : Int32) + ((p2 &&& (2147483647 : Int32)) % (100000 : Int32)))), (.ref b182)])) rfl (by rw [hml]; rfl) (Steps.refl _) (argsL := [(.int ((1 : Int32) + ((p2 &&& (2147483647 : Int32)) % (100000 : Int32))))]) (rest := []) (lenOf own_pd15 rfl) rfl (by show 2 * 0 + _ ≤ _; exact Nat.le_of_eq rfl) (hb hby at_83) (fun _ _ => ⟨rfl, eh217, (by decide : 4 + 0 ≤ _), (by decide : 9 + 0 ≤ _)⟩)
    dsimp only [Pt.U, Pt.locs, Pt.cells, Pt.slots] at X219 l219 y219 z219 st219 hQ219
    subst l219 y219 z219
    obtain ⟨N219q, rfl, eh219⟩ := hQ219
    have N220 := Fr.app N218 N219q
    refine own_tr st219 ?_
    show own_Go p e below s _ _ _ (T219.setTop (mkF m 86 #[.val (.int p1), .val (.int p2), .val (.int p3), .val (.int ((1 : Int32) + ((p2 &&& (2147483647 : Int32)) % (100000 : Int32)))), .val (.ref b182), .val (.long ((p3.toInt64) &&& (4294967295 : Int64))), .second, .val (.int (1 : Int32)), .val (.int (if p3 < 0 then (0 : Int32) else if p3 < ((1 : Int32) + ((p2 &&& (2147483647 : Int32)) % (100000 : Int32))) then 1 else 0)), .unset] [(.int (if ((1 : Int32) + ((p2 &&& (2147483647 : Int32)) % (100000 : Int32))) < 0 then (0 : Int32) else if ((1 : Int32) + ((p2 &&& (2147483647 : Int32)) % (100000 : Int32))) < ((1 : Int32) + ((p2 &&& (2147483647 : Int32)) % (100000 : Int32))) then 1 else 0))]))
    refine own_st (fun _ k => XS.ifNo X219.here hx rfl (hb hby at_86) rfl (XT.i0_ne_f (by simp [hn6])) k) ?_
    show own_Go p e below s _ _ _ (T219.setTop (mkF m 89 #[.val (.int p1), .val (.int p2), .val (.int p3), .val (.int ((1 : Int32) + ((p2 &&& (2147483647 : Int32)) % (100000 : Int32)))), .val (.ref b182), .val (.long ((p3.toInt64) &&& (4294967295 : Int64))), .second, .val (.int (1 : Int32)), .val (.int (if p3 < 0 then (0 : Int32) else if p3 < ((1 : Int32) + ((p2 &&& (2147483647 : Int32)) % (100000 : Int32))) then 1 else 0)), .unset] []))
    refine own_st (fun _ k => XS.aload X219.here hx rfl (hb hby at_89) rfl rfl k) ?_
    show own_Go p e below s _ _ _ (T219.setTop (mkF m 91 #[.val (.int p1), .val (.int p2), .val (.int p3), .val (.int ((1 : Int32) + ((p2 &&& (2147483647 : Int32)) % (100000 : Int32)))), .val (.ref b182), .val (.long ((p3.toInt64) &&& (4294967295 : Int64))), .second, .val (.int (1 : Int32)), .val (.int (if p3 < 0 then (0 : Int32) else if p3 < ((1 : Int32) + ((p2 &&& (2147483647 : Int32)) % (100000 : Int32))) then 1 else 0)), .unset] [(.ref b182)]))
    refine own_st (fun _ k => XT.iconstV X219.here hx rfl (-1 : Int32) (hb hby at_91) (by decide) k) ?_
    show own_Go p e below s _ _ _ (T219.setTop (mkF m 92 #[.val (.int p1), .val (.int p2), .val (.int p3), .val (.int ((1 : Int32) + ((p2 &&& (2147483647 : Int32)) % (100000 : Int32)))), .val (.ref b182), .val (.long ((p3.toInt64) &&& (4294967295 : Int64))), .second, .val (.int (1 : Int32)), .val (.int (if p3 < 0 then (0 : Int32) else if p3 < ((1 : Int32) + ((p2 &&& (2147483647 : Int32)) % (100000 : Int32))) then 1 else 0)), .unset] [(.int (-1 : Int32)), (.ref b182)]))
    obtain ⟨cq221, kq221, q221a, q221b, q221c⟩ := isOf hZ eh219 q208
    obtain ⟨_, _, ⟨T221, L221, k221, n221⟩, -, X221, ⟨Lc221, hQ221, l221, y221, z221⟩, st221⟩ := X219.virtualBack hx (y := (⟨"com/example/indri/indri/calls/Topic", "hasPartition", "(I)Z"⟩ : MethodName)) (z := (⟨"com/example/indri/indri/calls/Topic", "hasPartition", "(I)Z"⟩ : MethodName)) hown (mvT hZ (hw _ (List.mem_of_getElem? (i := 87) rfl))) (mvT hZ (hw _ (List.mem_of_getElem? (i := 88) rfl))) (notFace_of_selects (args := #[]) (mvT hZ (hw _ (List.mem_of_getElem? (i := 90) rfl)))) (mvT hZ (hw _ (List.mem_of_getElem? (i := 90) rfl))) (mvT hZ (hw _ (List.mem_of_getElem? (i := 89) rfl))) (by decide) (backOf (W := 0) (own_rm_hp l Z a0 hw [] b182 (-1 : Int32) ((1 : Int32) + ((p2 &&& (2147483647 : Int32)) % (100000 : Int32))) T203.heap n0 Zs211 q209) hZ (hw _ (List.mem_of_getElem? (i := 91) rfl)) (hw _ (List.mem_of_getElem? (i := 4) rfl)) (by decide) (by decide)) q221a q221c (g := (mkF m 92 #[.val (.int p1), .val (.int p2), .val (.int p3), .val (.int ((1 : Int32) + ((p2 &&& (2147483647 : Int32)) % (100000 : Int32)))), .val (.ref b182), .val (.long ((p3.toInt64) &&& (4294967295 : Int64))), .second, .val (.int (1 : Int32)), .val (.int (if p3 < 0 then (0 : Int32) else if p3 < ((1 : Int32) + ((p2 &&& (2147483647 : Int32)) % (100000 : Int32))) then 1 else 0)), .unset] [(.int (-1 : Int32)), (.ref b182)])) rfl (by rw [hml]; rfl) (Steps.refl _) (argsL := [(.int (-1 : Int32))]) (rest := []) (lenOf own_pd15 rfl) rfl (by show 2 * 0 + _ ≤ _; exact Nat.le_of_eq rfl) (hb hby at_92) (fun _ _ => ⟨rfl, eh219, (by decide : 4 + 0 ≤ _), (by decide : 9 + 0 ≤ _)⟩)
    dsimp only [Pt.U, Pt.locs, Pt.cells, Pt.slots] at X221 l221 y221 z221 st221 hQ221
    subst l221 y221 z221
    obtain ⟨N221q, rfl, eh221⟩ := hQ221
    have N222 := Fr.app N220 N221q
    refine own_tr st221 ?_
    show own_Go p e below s _ _ _ (T221.setTop (mkF m 95 #[.val (.int p1), .val (.int p2), .val (.int p3), .val (.int ((1 : Int32) + ((p2 &&& (2147483647 : Int32)) % (100000 : Int32)))), .val (.ref b182), .val (.long ((p3.toInt64) &&& (4294967295 : Int64))), .second, .val (.int (1 : Int32)), .val (.int (if p3 < 0 then (0 : Int32) else if p3 < ((1 : Int32) + ((p2 &&& (2147483647 : Int32)) % (100000 : Int32))) then 1 else 0)), .unset] [(.int (if (-1 : Int32) < 0 then (0 : Int32) else if (-1 : Int32) < ((1 : Int32) + ((p2 &&& (2147483647 : Int32)) % (100000 : Int32))) then 1 else 0))]))
    refine own_st (fun _ k => XS.ifNo X221.here hx rfl (hb hby at_95) rfl (XT.i0_ne_f (by rw [if_pos (by decide)])) k) ?_
    show own_Go p e below s _ _ _ (T221.setTop (mkF m 98 #[.val (.int p1), .val (.int p2), .val (.int p3), .val (.int ((1 : Int32) + ((p2 &&& (2147483647 : Int32)) % (100000 : Int32)))), .val (.ref b182), .val (.long ((p3.toInt64) &&& (4294967295 : Int64))), .second, .val (.int (1 : Int32)), .val (.int (if p3 < 0 then (0 : Int32) else if p3 < ((1 : Int32) + ((p2 &&& (2147483647 : Int32)) % (100000 : Int32))) then 1 else 0)), .unset] []))
    refine own_st (fun _ k => XS.aload X221.here hx rfl (hb hby at_98) rfl rfl k) ?_
    show own_Go p e below s _ _ _ (T221.setTop (mkF m 100 #[.val (.int p1), .val (.int p2), .val (.int p3), .val (.int ((1 : Int32) + ((p2 &&& (2147483647 : Int32)) % (100000 : Int32)))), .val (.ref b182), .val (.long ((p3.toInt64) &&& (4294967295 : Int64))), .second, .val (.int (1 : Int32)), .val (.int (if p3 < 0 then (0 : Int32) else if p3 < ((1 : Int32) + ((p2 &&& (2147483647 : Int32)) % (100000 : Int32))) then 1 else 0)), .unset] [(.ref b182)]))
    refine own_st (fun _ k => X221.ldcI hx hown (mvT hZ (hw _ (List.mem_of_getElem? (i := 92) rfl))) rfl (hb hby at_100) k) ?_
    show own_Go p e below s _ _ _ (T221.setTop (mkF m 102 #[.val (.int p1), .val (.int p2), .val (.int p3), .val (.int ((1 : Int32) + ((p2 &&& (2147483647 : Int32)) % (100000 : Int32)))), .val (.ref b182), .val (.long ((p3.toInt64) &&& (4294967295 : Int64))), .second, .val (.int (1 : Int32)), .val (.int (if p3 < 0 then (0 : Int32) else if p3 < ((1 : Int32) + ((p2 &&& (2147483647 : Int32)) % (100000 : Int32))) then 1 else 0)), .unset] [(.int (-2147483648 : Int32)), (.ref b182)]))
    obtain ⟨cq223, kq223, q223a, q223b, q223c⟩ := isOf hZ eh221 q208
    obtain ⟨_, _, ⟨T223, L223, k223, n223⟩, -, X223, ⟨Lc223, hQ223, l223, y223, z223⟩, st223⟩ := X221.virtualBack hx (y := (⟨"com/example/indri/indri/calls/Topic", "hasPartition", "(I)Z"⟩ : MethodName)) (z := (⟨"com/example/indri/indri/calls/Topic", "hasPartition", "(I)Z"⟩ : MethodName)) hown (mvT hZ (hw _ (List.mem_of_getElem? (i := 87) rfl))) (mvT hZ (hw _ (List.mem_of_getElem? (i := 88) rfl))) (notFace_of_selects (args := #[]) (mvT hZ (hw _ (List.mem_of_getElem? (i := 90) rfl)))) (mvT hZ (hw _ (List.mem_of_getElem? (i := 90) rfl))) (mvT hZ (hw _ (List.mem_of_getElem? (i := 89) rfl))) (by decide) (backOf (W := 0) (own_rm_hp l Z a0 hw [] b182 (-2147483648 : Int32) ((1 : Int32) + ((p2 &&& (2147483647 : Int32)) % (100000 : Int32))) T203.heap n0 Zs211 q209) hZ (hw _ (List.mem_of_getElem? (i := 91) rfl)) (hw _ (List.mem_of_getElem? (i := 4) rfl)) (by decide) (by decide)) q223a q223c (g := (mkF m 102 #[.val (.int p1), .val (.int p2), .val (.int p3), .val (.int ((1 : Int32) + ((p2 &&& (2147483647 : Int32)) % (100000 : Int32)))), .val (.ref b182), .val (.long ((p3.toInt64) &&& (4294967295 : Int64))), .second, .val (.int (1 : Int32)), .val (.int (if p3 < 0 then (0 : Int32) else if p3 < ((1 : Int32) + ((p2 &&& (2147483647 : Int32)) % (100000 : Int32))) then 1 else 0)), .unset] [(.int (-2147483648 : Int32)), (.ref b182)])) rfl (by rw [hml]; rfl) (Steps.refl _) (argsL := [(.int (-2147483648 : Int32))]) (rest := []) (lenOf own_pd15 rfl) rfl (by show 2 * 0 + _ ≤ _; exact Nat.le_of_eq rfl) (hb hby at_102) (fun _ _ => ⟨rfl, eh221, (by decide : 4 + 0 ≤ _), (by decide : 9 + 0 ≤ _)⟩)
    dsimp only [Pt.U, Pt.locs, Pt.cells, Pt.slots] at X223 l223 y223 z223 st223 hQ223
    subst l223 y223 z223
    obtain ⟨N223q, rfl, eh223⟩ := hQ223
    have N224 := Fr.app N222 N223q
    refine own_tr st223 ?_
    show own_Go p e below s _ _ _ (T223.setTop (mkF m 105 #[.val (.int p1), .val (.int p2), .val (.int p3), .val (.int ((1 : Int32) + ((p2 &&& (2147483647 : Int32)) % (100000 : Int32)))), .val (.ref b182), .val (.long ((p3.toInt64) &&& (4294967295 : Int64))), .second, .val (.int (1 : Int32)), .val (.int (if p3 < 0 then (0 : Int32) else if p3 < ((1 : Int32) + ((p2 &&& (2147483647 : Int32)) % (100000 : Int32))) then 1 else 0)), .unset] [(.int (if (-2147483648 : Int32) < 0 then (0 : Int32) else if (-2147483648 : Int32) < ((1 : Int32) + ((p2 &&& (2147483647 : Int32)) % (100000 : Int32))) then 1 else 0))]))
    refine own_st (fun _ k => XS.ifNo X223.here hx rfl (hb hby at_105) rfl (XT.i0_ne_f (by rw [if_pos (by decide)])) k) ?_
    show own_Go p e below s _ _ _ (T223.setTop (mkF m 108 #[.val (.int p1), .val (.int p2), .val (.int p3), .val (.int ((1 : Int32) + ((p2 &&& (2147483647 : Int32)) % (100000 : Int32)))), .val (.ref b182), .val (.long ((p3.toInt64) &&& (4294967295 : Int64))), .second, .val (.int (1 : Int32)), .val (.int (if p3 < 0 then (0 : Int32) else if p3 < ((1 : Int32) + ((p2 &&& (2147483647 : Int32)) % (100000 : Int32))) then 1 else 0)), .unset] []))
    refine own_st (fun _ k => XS.aload X223.here hx rfl (hb hby at_108) rfl rfl k) ?_
    show own_Go p e below s _ _ _ (T223.setTop (mkF m 110 #[.val (.int p1), .val (.int p2), .val (.int p3), .val (.int ((1 : Int32) + ((p2 &&& (2147483647 : Int32)) % (100000 : Int32)))), .val (.ref b182), .val (.long ((p3.toInt64) &&& (4294967295 : Int64))), .second, .val (.int (1 : Int32)), .val (.int (if p3 < 0 then (0 : Int32) else if p3 < ((1 : Int32) + ((p2 &&& (2147483647 : Int32)) % (100000 : Int32))) then 1 else 0)), .unset] [(.ref b182)]))
    refine own_st (fun _ k => X223.ldcI hx hown (mvT hZ (hw _ (List.mem_of_getElem? (i := 0) rfl))) rfl (hb hby at_110) k) ?_
    show own_Go p e below s _ _ _ (T223.setTop (mkF m 112 #[.val (.int p1), .val (.int p2), .val (.int p3), .val (.int ((1 : Int32) + ((p2 &&& (2147483647 : Int32)) % (100000 : Int32)))), .val (.ref b182), .val (.long ((p3.toInt64) &&& (4294967295 : Int64))), .second, .val (.int (1 : Int32)), .val (.int (if p3 < 0 then (0 : Int32) else if p3 < ((1 : Int32) + ((p2 &&& (2147483647 : Int32)) % (100000 : Int32))) then 1 else 0)), .unset] [(.int (2147483647 : Int32)), (.ref b182)]))
    obtain ⟨cq225, kq225, q225a, q225b, q225c⟩ := isOf hZ eh223 q208
    obtain ⟨_, _, ⟨T225, L225, k225, n225⟩, -, X225, ⟨Lc225, hQ225, l225, y225, z225⟩, st225⟩ := X223.virtualBack hx (y := (⟨"com/example/indri/indri/calls/Topic", "hasPartition", "(I)Z"⟩ : MethodName)) (z := (⟨"com/example/indri/indri/calls/Topic", "hasPartition", "(I)Z"⟩ : MethodName)) hown (mvT hZ (hw _ (List.mem_of_getElem? (i := 87) rfl))) (mvT hZ (hw _ (List.mem_of_getElem? (i := 88) rfl))) (notFace_of_selects (args := #[]) (mvT hZ (hw _ (List.mem_of_getElem? (i := 90) rfl)))) (mvT hZ (hw _ (List.mem_of_getElem? (i := 90) rfl))) (mvT hZ (hw _ (List.mem_of_getElem? (i := 89) rfl))) (by decide) (backOf (W := 0) (own_rm_hp l Z a0 hw [] b182 (2147483647 : Int32) ((1 : Int32) + ((p2 &&& (2147483647 : Int32)) % (100000 : Int32))) T203.heap n0 Zs211 q209) hZ (hw _ (List.mem_of_getElem? (i := 91) rfl)) (hw _ (List.mem_of_getElem? (i := 4) rfl)) (by decide) (by decide)) q225a q225c (g := (mkF m 112 #[.val (.int p1), .val (.int p2), .val (.int p3), .val (.int ((1 : Int32) + ((p2 &&& (2147483647 : Int32)) % (100000 : Int32)))), .val (.ref b182), .val (.long ((p3.toInt64) &&& (4294967295 : Int64))), .second, .val (.int (1 : Int32)), .val (.int (if p3 < 0 then (0 : Int32) else if p3 < ((1 : Int32) + ((p2 &&& (2147483647 : Int32)) % (100000 : Int32))) then 1 else 0)), .unset] [(.int (2147483647 : Int32)), (.ref b182)])) rfl (by rw [hml]; rfl) (Steps.refl _) (argsL := [(.int (2147483647 : Int32))]) (rest := []) (lenOf own_pd15 rfl) rfl (by show 2 * 0 + _ ≤ _; exact Nat.le_of_eq rfl) (hb hby at_112) (fun _ _ => ⟨rfl, eh223, (by decide : 4 + 0 ≤ _), (by decide : 9 + 0 ≤ _)⟩)
    dsimp only [Pt.U, Pt.locs, Pt.cells, Pt.slots] at X225 l225 y225 z225 st225 hQ225
    subst l225 y225 z225
    obtain ⟨N225q, rfl, eh225⟩ := hQ225
    have N226 := Fr.app N224 N225q
    refine own_tr st225 ?_
    show own_Go p e below s _ _ _ (T225.setTop (mkF m 115 #[.val (.int p1), .val (.int p2), .val (.int p3), .val (.int ((1 : Int32) + ((p2 &&& (2147483647 : Int32)) % (100000 : Int32)))), .val (.ref b182), .val (.long ((p3.toInt64) &&& (4294967295 : Int64))), .second, .val (.int (1 : Int32)), .val (.int (if p3 < 0 then (0 : Int32) else if p3 < ((1 : Int32) + ((p2 &&& (2147483647 : Int32)) % (100000 : Int32))) then 1 else 0)), .unset] [(.int (if (2147483647 : Int32) < 0 then (0 : Int32) else if (2147483647 : Int32) < ((1 : Int32) + ((p2 &&& (2147483647 : Int32)) % (100000 : Int32))) then 1 else 0))]))
    refine own_st (fun _ k => XS.ifNo X225.here hx rfl (hb hby at_115) rfl (XT.i0_ne_f (by simp [hn7])) k) ?_
    show own_Go p e below s _ _ _ (T225.setTop (mkF m 118 #[.val (.int p1), .val (.int p2), .val (.int p3), .val (.int ((1 : Int32) + ((p2 &&& (2147483647 : Int32)) % (100000 : Int32)))), .val (.ref b182), .val (.long ((p3.toInt64) &&& (4294967295 : Int64))), .second, .val (.int (1 : Int32)), .val (.int (if p3 < 0 then (0 : Int32) else if p3 < ((1 : Int32) + ((p2 &&& (2147483647 : Int32)) % (100000 : Int32))) then 1 else 0)), .unset] []))
    refine own_st (fun _ k => XT.iconstV X225.here hx rfl (1 : Int32) (hb hby at_118) (by decide) k) ?_
    show own_Go p e below s _ _ _ (T225.setTop (mkF m 119 #[.val (.int p1), .val (.int p2), .val (.int p3), .val (.int ((1 : Int32) + ((p2 &&& (2147483647 : Int32)) % (100000 : Int32)))), .val (.ref b182), .val (.long ((p3.toInt64) &&& (4294967295 : Int64))), .second, .val (.int (1 : Int32)), .val (.int (if p3 < 0 then (0 : Int32) else if p3 < ((1 : Int32) + ((p2 &&& (2147483647 : Int32)) % (100000 : Int32))) then 1 else 0)), .unset] [(.int (1 : Int32))]))
    refine own_st (fun _ k => XS.goto X225.here hx rfl (pc0 := 119) (pc' := 123) rfl (hb hby at_119) (by decide) (by decide) k) ?_
    show own_Go p e below s _ _ _ (T225.setTop (mkF m 123 #[.val (.int p1), .val (.int p2), .val (.int p3), .val (.int ((1 : Int32) + ((p2 &&& (2147483647 : Int32)) % (100000 : Int32)))), .val (.ref b182), .val (.long ((p3.toInt64) &&& (4294967295 : Int64))), .second, .val (.int (1 : Int32)), .val (.int (if p3 < 0 then (0 : Int32) else if p3 < ((1 : Int32) + ((p2 &&& (2147483647 : Int32)) % (100000 : Int32))) then 1 else 0)), .unset] [(.int (1 : Int32))]))
    refine own_st (fun _ k => XS.istore X225.here hx rfl (hb hby at_123) rfl (l' := #[.val (.int p1), .val (.int p2), .val (.int p3), .val (.int ((1 : Int32) + ((p2 &&& (2147483647 : Int32)) % (100000 : Int32)))), .val (.ref b182), .val (.long ((p3.toInt64) &&& (4294967295 : Int64))), .second, .val (.int (1 : Int32)), .val (.int (if p3 < 0 then (0 : Int32) else if p3 < ((1 : Int32) + ((p2 &&& (2147483647 : Int32)) % (100000 : Int32))) then 1 else 0)), .val (.int (1 : Int32))]) rfl k) ?_
    show own_Go p e below s _ _ _ (T225.setTop (mkF m 125 #[.val (.int p1), .val (.int p2), .val (.int p3), .val (.int ((1 : Int32) + ((p2 &&& (2147483647 : Int32)) % (100000 : Int32)))), .val (.ref b182), .val (.long ((p3.toInt64) &&& (4294967295 : Int64))), .second, .val (.int (1 : Int32)), .val (.int (if p3 < 0 then (0 : Int32) else if p3 < ((1 : Int32) + ((p2 &&& (2147483647 : Int32)) % (100000 : Int32))) then 1 else 0)), .val (.int (1 : Int32))] []))
    refine own_st (fun _ k => XS.iload X225.here hx rfl (hb hby at_125) rfl k) ?_
    show own_Go p e below s _ _ _ (T225.setTop (mkF m 127 #[.val (.int p1), .val (.int p2), .val (.int p3), .val (.int ((1 : Int32) + ((p2 &&& (2147483647 : Int32)) % (100000 : Int32)))), .val (.ref b182), .val (.long ((p3.toInt64) &&& (4294967295 : Int64))), .second, .val (.int (1 : Int32)), .val (.int (if p3 < 0 then (0 : Int32) else if p3 < ((1 : Int32) + ((p2 &&& (2147483647 : Int32)) % (100000 : Int32))) then 1 else 0)), .val (.int (1 : Int32))] [(.int (if p3 < 0 then (0 : Int32) else if p3 < ((1 : Int32) + ((p2 &&& (2147483647 : Int32)) % (100000 : Int32))) then 1 else 0))]))
    refine own_st (fun _ k => XS.iload X225.here hx rfl (hb hby at_127) rfl k) ?_
    show own_Go p e below s _ _ _ (T225.setTop (mkF m 129 #[.val (.int p1), .val (.int p2), .val (.int p3), .val (.int ((1 : Int32) + ((p2 &&& (2147483647 : Int32)) % (100000 : Int32)))), .val (.ref b182), .val (.long ((p3.toInt64) &&& (4294967295 : Int64))), .second, .val (.int (1 : Int32)), .val (.int (if p3 < 0 then (0 : Int32) else if p3 < ((1 : Int32) + ((p2 &&& (2147483647 : Int32)) % (100000 : Int32))) then 1 else 0)), .val (.int (1 : Int32))] [(.int (1 : Int32)), (.int (if p3 < 0 then (0 : Int32) else if p3 < ((1 : Int32) + ((p2 &&& (2147483647 : Int32)) % (100000 : Int32))) then 1 else 0))]))
    refine own_st (fun _ k => XS.icmpNo X225.here hx rfl (hb hby at_129) rfl (XT.ii_ne_f (by have q := hun.mp hc212; simp [q.1, q.2])) k) ?_
    show own_Go p e below s _ _ _ (T225.setTop (mkF m 132 #[.val (.int p1), .val (.int p2), .val (.int p3), .val (.int ((1 : Int32) + ((p2 &&& (2147483647 : Int32)) % (100000 : Int32)))), .val (.ref b182), .val (.long ((p3.toInt64) &&& (4294967295 : Int64))), .second, .val (.int (1 : Int32)), .val (.int (if p3 < 0 then (0 : Int32) else if p3 < ((1 : Int32) + ((p2 &&& (2147483647 : Int32)) % (100000 : Int32))) then 1 else 0)), .val (.int (1 : Int32))] []))
    refine own_st (fun _ k => XS.iload X225.here hx rfl (hb hby at_132) rfl k) ?_
    show own_Go p e below s _ _ _ (T225.setTop (mkF m 134 #[.val (.int p1), .val (.int p2), .val (.int p3), .val (.int ((1 : Int32) + ((p2 &&& (2147483647 : Int32)) % (100000 : Int32)))), .val (.ref b182), .val (.long ((p3.toInt64) &&& (4294967295 : Int64))), .second, .val (.int (1 : Int32)), .val (.int (if p3 < 0 then (0 : Int32) else if p3 < ((1 : Int32) + ((p2 &&& (2147483647 : Int32)) % (100000 : Int32))) then 1 else 0)), .val (.int (1 : Int32))] [(.int (1 : Int32))]))
    refine own_st (fun _ k => XS.ifNo X225.here hx rfl (hb hby at_134) rfl (XT.i0_eq_f (by decide)) k) ?_
    show own_Go p e below s _ _ _ (T225.setTop (mkF m 137 #[.val (.int p1), .val (.int p2), .val (.int p3), .val (.int ((1 : Int32) + ((p2 &&& (2147483647 : Int32)) % (100000 : Int32)))), .val (.ref b182), .val (.long ((p3.toInt64) &&& (4294967295 : Int64))), .second, .val (.int (1 : Int32)), .val (.int (if p3 < 0 then (0 : Int32) else if p3 < ((1 : Int32) + ((p2 &&& (2147483647 : Int32)) % (100000 : Int32))) then 1 else 0)), .val (.int (1 : Int32))] []))
    refine own_st (fun _ k => XT.iconstV X225.here hx rfl (1 : Int32) (hb hby at_137) (by decide) k) ?_
    show own_Go p e below s _ _ _ (T225.setTop (mkF m 138 #[.val (.int p1), .val (.int p2), .val (.int p3), .val (.int ((1 : Int32) + ((p2 &&& (2147483647 : Int32)) % (100000 : Int32)))), .val (.ref b182), .val (.long ((p3.toInt64) &&& (4294967295 : Int64))), .second, .val (.int (1 : Int32)), .val (.int (if p3 < 0 then (0 : Int32) else if p3 < ((1 : Int32) + ((p2 &&& (2147483647 : Int32)) % (100000 : Int32))) then 1 else 0)), .val (.int (1 : Int32))] [(.int (1 : Int32))]))
    refine own_st (fun _ k => XS.goto X225.here hx rfl (pc0 := 138) (pc' := 142) rfl (hb hby at_138) (by decide) (by decide) k) ?_
    show own_Go p e below s _ _ _ (T225.setTop (mkF m 142 #[.val (.int p1), .val (.int p2), .val (.int p3), .val (.int ((1 : Int32) + ((p2 &&& (2147483647 : Int32)) % (100000 : Int32)))), .val (.ref b182), .val (.long ((p3.toInt64) &&& (4294967295 : Int64))), .second, .val (.int (1 : Int32)), .val (.int (if p3 < 0 then (0 : Int32) else if p3 < ((1 : Int32) + ((p2 &&& (2147483647 : Int32)) % (100000 : Int32))) then 1 else 0)), .val (.int (1 : Int32))] [(.int (1 : Int32))]))
    refine own_retN X225 hx hlk Bd.returns (t := .boolean) (z' := (1 : Int32)) (by simp) (by decide) (hb hby at_142) (by decide) (by decide) ?_
    rw [eh225]
    exact ⟨N226, rfl⟩
  · refine own_st (fun _ k => XS.ifYes X203.here hx rfl (pc0 := 42) (pc' := 49) rfl (hb hby at_42) rfl (XT.ll_ge_t hc212) (by decide) (by decide) k) ?_
    show own_Go p e below s _ _ _ (T203.setTop (mkF m 49 #[.val (.int p1), .val (.int p2), .val (.int p3), .val (.int ((1 : Int32) + ((p2 &&& (2147483647 : Int32)) % (100000 : Int32)))), .val (.ref b182), .val (.long ((p3.toInt64) &&& (4294967295 : Int64))), .second, .unset, .unset, .unset] []))
    refine own_st (fun _ k => XT.iconstV X203.here hx rfl (0 : Int32) (hb hby at_49) (by decide) k) ?_
    show own_Go p e below s _ _ _ (T203.setTop (mkF m 50 #[.val (.int p1), .val (.int p2), .val (.int p3), .val (.int ((1 : Int32) + ((p2 &&& (2147483647 : Int32)) % (100000 : Int32)))), .val (.ref b182), .val (.long ((p3.toInt64) &&& (4294967295 : Int64))), .second, .unset, .unset, .unset] [(.int (0 : Int32))]))
    refine own_st (fun _ k => XS.istore X203.here hx rfl (hb hby at_50) rfl (l' := #[.val (.int p1), .val (.int p2), .val (.int p3), .val (.int ((1 : Int32) + ((p2 &&& (2147483647 : Int32)) % (100000 : Int32)))), .val (.ref b182), .val (.long ((p3.toInt64) &&& (4294967295 : Int64))), .second, .val (.int (0 : Int32)), .unset, .unset]) rfl k) ?_
    show own_Go p e below s _ _ _ (T203.setTop (mkF m 52 #[.val (.int p1), .val (.int p2), .val (.int p3), .val (.int ((1 : Int32) + ((p2 &&& (2147483647 : Int32)) % (100000 : Int32)))), .val (.ref b182), .val (.long ((p3.toInt64) &&& (4294967295 : Int64))), .second, .val (.int (0 : Int32)), .unset, .unset] []))
    refine own_st (fun _ k => XS.aload X203.here hx rfl (hb hby at_52) rfl rfl k) ?_
    show own_Go p e below s _ _ _ (T203.setTop (mkF m 54 #[.val (.int p1), .val (.int p2), .val (.int p3), .val (.int ((1 : Int32) + ((p2 &&& (2147483647 : Int32)) % (100000 : Int32)))), .val (.ref b182), .val (.long ((p3.toInt64) &&& (4294967295 : Int64))), .second, .val (.int (0 : Int32)), .unset, .unset] [(.ref b182)]))
    refine own_st (fun _ k => XS.iloadN X203.here hx rfl (hb hby at_54) rfl k) ?_
    show own_Go p e below s _ _ _ (T203.setTop (mkF m 55 #[.val (.int p1), .val (.int p2), .val (.int p3), .val (.int ((1 : Int32) + ((p2 &&& (2147483647 : Int32)) % (100000 : Int32)))), .val (.ref b182), .val (.long ((p3.toInt64) &&& (4294967295 : Int64))), .second, .val (.int (0 : Int32)), .unset, .unset] [(.int p3), (.ref b182)]))
    obtain ⟨cq227, kq227, q227a, q227b, q227c⟩ := isOf hZ rfl q208
    obtain ⟨_, _, ⟨T227, L227, k227, n227⟩, -, X227, ⟨Lc227, hQ227, l227, y227, z227⟩, st227⟩ := X203.virtualBack hx (y := (⟨"com/example/indri/indri/calls/Topic", "hasPartition", "(I)Z"⟩ : MethodName)) (z := (⟨"com/example/indri/indri/calls/Topic", "hasPartition", "(I)Z"⟩ : MethodName)) hown (mvT hZ (hw _ (List.mem_of_getElem? (i := 87) rfl))) (mvT hZ (hw _ (List.mem_of_getElem? (i := 88) rfl))) (notFace_of_selects (args := #[]) (mvT hZ (hw _ (List.mem_of_getElem? (i := 90) rfl)))) (mvT hZ (hw _ (List.mem_of_getElem? (i := 90) rfl))) (mvT hZ (hw _ (List.mem_of_getElem? (i := 89) rfl))) (by decide) (backOf (W := 0) (own_rm_hp l Z a0 hw [] b182 p3 ((1 : Int32) + ((p2 &&& (2147483647 : Int32)) % (100000 : Int32))) T203.heap n0 Zs211 q209) hZ (hw _ (List.mem_of_getElem? (i := 91) rfl)) (hw _ (List.mem_of_getElem? (i := 4) rfl)) (by decide) (by decide)) q227a q227c (g := (mkF m 55 #[.val (.int p1), .val (.int p2), .val (.int p3), .val (.int ((1 : Int32) + ((p2 &&& (2147483647 : Int32)) % (100000 : Int32)))), .val (.ref b182), .val (.long ((p3.toInt64) &&& (4294967295 : Int64))), .second, .val (.int (0 : Int32)), .unset, .unset] [(.int p3), (.ref b182)])) rfl (by rw [hml]; rfl) (Steps.refl _) (argsL := [(.int p3)]) (rest := []) (lenOf own_pd15 rfl) rfl (by show 2 * 0 + _ ≤ _; exact Nat.le_of_eq rfl) (hb hby at_55) (fun _ _ => ⟨rfl, rfl, (by decide : 4 + 0 ≤ _), (by decide : 9 + 0 ≤ _)⟩)
    dsimp only [Pt.U, Pt.locs, Pt.cells, Pt.slots] at X227 l227 y227 z227 st227 hQ227
    subst l227 y227 z227
    obtain ⟨N227q, rfl, eh227⟩ := hQ227
    have N228 := Fr.app N210 N227q
    refine own_tr st227 ?_
    show own_Go p e below s _ _ _ (T227.setTop (mkF m 58 #[.val (.int p1), .val (.int p2), .val (.int p3), .val (.int ((1 : Int32) + ((p2 &&& (2147483647 : Int32)) % (100000 : Int32)))), .val (.ref b182), .val (.long ((p3.toInt64) &&& (4294967295 : Int64))), .second, .val (.int (0 : Int32)), .unset, .unset] [(.int (if p3 < 0 then (0 : Int32) else if p3 < ((1 : Int32) + ((p2 &&& (2147483647 : Int32)) % (100000 : Int32))) then 1 else 0))]))
    refine own_st (fun _ k => XS.istore X227.here hx rfl (hb hby at_58) rfl (l' := #[.val (.int p1), .val (.int p2), .val (.int p3), .val (.int ((1 : Int32) + ((p2 &&& (2147483647 : Int32)) % (100000 : Int32)))), .val (.ref b182), .val (.long ((p3.toInt64) &&& (4294967295 : Int64))), .second, .val (.int (0 : Int32)), .val (.int (if p3 < 0 then (0 : Int32) else if p3 < ((1 : Int32) + ((p2 &&& (2147483647 : Int32)) % (100000 : Int32))) then 1 else 0)), .unset]) rfl k) ?_
    show own_Go p e below s _ _ _ (T227.setTop (mkF m 60 #[.val (.int p1), .val (.int p2), .val (.int p3), .val (.int ((1 : Int32) + ((p2 &&& (2147483647 : Int32)) % (100000 : Int32)))), .val (.ref b182), .val (.long ((p3.toInt64) &&& (4294967295 : Int64))), .second, .val (.int (0 : Int32)), .val (.int (if p3 < 0 then (0 : Int32) else if p3 < ((1 : Int32) + ((p2 &&& (2147483647 : Int32)) % (100000 : Int32))) then 1 else 0)), .unset] []))
    refine own_st (fun _ k => XS.aload X227.here hx rfl (hb hby at_60) rfl rfl k) ?_
    show own_Go p e below s _ _ _ (T227.setTop (mkF m 62 #[.val (.int p1), .val (.int p2), .val (.int p3), .val (.int ((1 : Int32) + ((p2 &&& (2147483647 : Int32)) % (100000 : Int32)))), .val (.ref b182), .val (.long ((p3.toInt64) &&& (4294967295 : Int64))), .second, .val (.int (0 : Int32)), .val (.int (if p3 < 0 then (0 : Int32) else if p3 < ((1 : Int32) + ((p2 &&& (2147483647 : Int32)) % (100000 : Int32))) then 1 else 0)), .unset] [(.ref b182)]))
    refine own_st (fun _ k => XT.iconstV X227.here hx rfl (0 : Int32) (hb hby at_62) (by decide) k) ?_
    show own_Go p e below s _ _ _ (T227.setTop (mkF m 63 #[.val (.int p1), .val (.int p2), .val (.int p3), .val (.int ((1 : Int32) + ((p2 &&& (2147483647 : Int32)) % (100000 : Int32)))), .val (.ref b182), .val (.long ((p3.toInt64) &&& (4294967295 : Int64))), .second, .val (.int (0 : Int32)), .val (.int (if p3 < 0 then (0 : Int32) else if p3 < ((1 : Int32) + ((p2 &&& (2147483647 : Int32)) % (100000 : Int32))) then 1 else 0)), .unset] [(.int (0 : Int32)), (.ref b182)]))
    obtain ⟨cq229, kq229, q229a, q229b, q229c⟩ := isOf hZ eh227 q208
    obtain ⟨_, _, ⟨T229, L229, k229, n229⟩, -, X229, ⟨Lc229, hQ229, l229, y229, z229⟩, st229⟩ := X227.virtualBack hx (y := (⟨"com/example/indri/indri/calls/Topic", "hasPartition", "(I)Z"⟩ : MethodName)) (z := (⟨"com/example/indri/indri/calls/Topic", "hasPartition", "(I)Z"⟩ : MethodName)) hown (mvT hZ (hw _ (List.mem_of_getElem? (i := 87) rfl))) (mvT hZ (hw _ (List.mem_of_getElem? (i := 88) rfl))) (notFace_of_selects (args := #[]) (mvT hZ (hw _ (List.mem_of_getElem? (i := 90) rfl)))) (mvT hZ (hw _ (List.mem_of_getElem? (i := 90) rfl))) (mvT hZ (hw _ (List.mem_of_getElem? (i := 89) rfl))) (by decide) (backOf (W := 0) (own_rm_hp l Z a0 hw [] b182 (0 : Int32) ((1 : Int32) + ((p2 &&& (2147483647 : Int32)) % (100000 : Int32))) T203.heap n0 Zs211 q209) hZ (hw _ (List.mem_of_getElem? (i := 91) rfl)) (hw _ (List.mem_of_getElem? (i := 4) rfl)) (by decide) (by decide)) q229a q229c (g := (mkF m 63 #[.val (.int p1), .val (.int p2), .val (.int p3), .val (.int ((1 : Int32) + ((p2 &&& (2147483647 : Int32)) % (100000 : Int32)))), .val (.ref b182), .val (.long ((p3.toInt64) &&& (4294967295 : Int64))), .second, .val (.int (0 : Int32)), .val (.int (if p3 < 0 then (0 : Int32) else if p3 < ((1 : Int32) + ((p2 &&& (2147483647 : Int32)) % (100000 : Int32))) then 1 else 0)), .unset] [(.int (0 : Int32)), (.ref b182)])) rfl (by rw [hml]; rfl) (Steps.refl _) (argsL := [(.int (0 : Int32))]) (rest := []) (lenOf own_pd15 rfl) rfl (by show 2 * 0 + _ ≤ _; exact Nat.le_of_eq rfl) (hb hby at_63) (fun _ _ => ⟨rfl, eh227, (by decide : 4 + 0 ≤ _), (by decide : 9 + 0 ≤ _)⟩)
    dsimp only [Pt.U, Pt.locs, Pt.cells, Pt.slots] at X229 l229 y229 z229 st229 hQ229
    subst l229 y229 z229
    obtain ⟨N229q, rfl, eh229⟩ := hQ229
    have N230 := Fr.app N228 N229q
    refine own_tr st229 ?_
    show own_Go p e below s _ _ _ (T229.setTop (mkF m 66 #[.val (.int p1), .val (.int p2), .val (.int p3), .val (.int ((1 : Int32) + ((p2 &&& (2147483647 : Int32)) % (100000 : Int32)))), .val (.ref b182), .val (.long ((p3.toInt64) &&& (4294967295 : Int64))), .second, .val (.int (0 : Int32)), .val (.int (if p3 < 0 then (0 : Int32) else if p3 < ((1 : Int32) + ((p2 &&& (2147483647 : Int32)) % (100000 : Int32))) then 1 else 0)), .unset] [(.int (if (0 : Int32) < 0 then (0 : Int32) else if (0 : Int32) < ((1 : Int32) + ((p2 &&& (2147483647 : Int32)) % (100000 : Int32))) then 1 else 0))]))
    refine own_st (fun _ k => XS.ifNo X229.here hx rfl (hb hby at_66) rfl (XT.i0_eq_f (by simp [hn3])) k) ?_
    show own_Go p e below s _ _ _ (T229.setTop (mkF m 69 #[.val (.int p1), .val (.int p2), .val (.int p3), .val (.int ((1 : Int32) + ((p2 &&& (2147483647 : Int32)) % (100000 : Int32)))), .val (.ref b182), .val (.long ((p3.toInt64) &&& (4294967295 : Int64))), .second, .val (.int (0 : Int32)), .val (.int (if p3 < 0 then (0 : Int32) else if p3 < ((1 : Int32) + ((p2 &&& (2147483647 : Int32)) % (100000 : Int32))) then 1 else 0)), .unset] []))
    refine own_st (fun _ k => XS.aload X229.here hx rfl (hb hby at_69) rfl rfl k) ?_
    show own_Go p e below s _ _ _ (T229.setTop (mkF m 71 #[.val (.int p1), .val (.int p2), .val (.int p3), .val (.int ((1 : Int32) + ((p2 &&& (2147483647 : Int32)) % (100000 : Int32)))), .val (.ref b182), .val (.long ((p3.toInt64) &&& (4294967295 : Int64))), .second, .val (.int (0 : Int32)), .val (.int (if p3 < 0 then (0 : Int32) else if p3 < ((1 : Int32) + ((p2 &&& (2147483647 : Int32)) % (100000 : Int32))) then 1 else 0)), .unset] [(.ref b182)]))
    refine own_st (fun _ k => XS.iloadN X229.here hx rfl (hb hby at_71) rfl k) ?_
    show own_Go p e below s _ _ _ (T229.setTop (mkF m 72 #[.val (.int p1), .val (.int p2), .val (.int p3), .val (.int ((1 : Int32) + ((p2 &&& (2147483647 : Int32)) % (100000 : Int32)))), .val (.ref b182), .val (.long ((p3.toInt64) &&& (4294967295 : Int64))), .second, .val (.int (0 : Int32)), .val (.int (if p3 < 0 then (0 : Int32) else if p3 < ((1 : Int32) + ((p2 &&& (2147483647 : Int32)) % (100000 : Int32))) then 1 else 0)), .unset] [(.int ((1 : Int32) + ((p2 &&& (2147483647 : Int32)) % (100000 : Int32)))), (.ref b182)]))
    refine own_st (fun _ k => XT.iconstV X229.here hx rfl (1 : Int32) (hb hby at_72) (by decide) k) ?_
    show own_Go p e below s _ _ _ (T229.setTop (mkF m 73 #[.val (.int p1), .val (.int p2), .val (.int p3), .val (.int ((1 : Int32) + ((p2 &&& (2147483647 : Int32)) % (100000 : Int32)))), .val (.ref b182), .val (.long ((p3.toInt64) &&& (4294967295 : Int64))), .second, .val (.int (0 : Int32)), .val (.int (if p3 < 0 then (0 : Int32) else if p3 < ((1 : Int32) + ((p2 &&& (2147483647 : Int32)) % (100000 : Int32))) then 1 else 0)), .unset] [(.int (1 : Int32)), (.int ((1 : Int32) + ((p2 &&& (2147483647 : Int32)) % (100000 : Int32)))), (.ref b182)]))
    refine own_st (fun _ k => XS.isub X229.here hx rfl (hb hby at_73) rfl k) ?_
    show own_Go p e below s _ _ _ (T229.setTop (mkF m 74 #[.val (.int p1), .val (.int p2), .val (.int p3), .val (.int ((1 : Int32) + ((p2 &&& (2147483647 : Int32)) % (100000 : Int32)))), .val (.ref b182), .val (.long ((p3.toInt64) &&& (4294967295 : Int64))), .second, .val (.int (0 : Int32)), .val (.int (if p3 < 0 then (0 : Int32) else if p3 < ((1 : Int32) + ((p2 &&& (2147483647 : Int32)) % (100000 : Int32))) then 1 else 0)), .unset] [(.int (((1 : Int32) + ((p2 &&& (2147483647 : Int32)) % (100000 : Int32))) - (1 : Int32))), (.ref b182)]))
    obtain ⟨cq231, kq231, q231a, q231b, q231c⟩ := isOf hZ eh229 q208
    obtain ⟨_, _, ⟨T231, L231, k231, n231⟩, -, X231, ⟨Lc231, hQ231, l231, y231, z231⟩, st231⟩ := X229.virtualBack hx (y := (⟨"com/example/indri/indri/calls/Topic", "hasPartition", "(I)Z"⟩ : MethodName)) (z := (⟨"com/example/indri/indri/calls/Topic", "hasPartition", "(I)Z"⟩ : MethodName)) hown (mvT hZ (hw _ (List.mem_of_getElem? (i := 87) rfl))) (mvT hZ (hw _ (List.mem_of_getElem? (i := 88) rfl))) (notFace_of_selects (args := #[]) (mvT hZ (hw _ (List.mem_of_getElem? (i := 90) rfl)))) (mvT hZ (hw _ (List.mem_of_getElem? (i := 90) rfl))) (mvT hZ (hw _ (List.mem_of_getElem? (i := 89) rfl))) (by decide) (backOf (W := 0) (own_rm_hp l Z a0 hw [] b182 (((1 : Int32) + ((p2 &&& (2147483647 : Int32)) % (100000 : Int32))) - (1 : Int32)) ((1 : Int32) + ((p2 &&& (2147483647 : Int32)) % (100000 : Int32))) T203.heap n0 Zs211 q209) hZ (hw _ (List.mem_of_getElem? (i := 91) rfl)) (hw _ (List.mem_of_getElem? (i := 4) rfl)) (by decide) (by decide)) q231a q231c (g := (mkF m 74 #[.val (.int p1), .val (.int p2), .val (.int p3), .val (.int ((1 : Int32) + ((p2 &&& (2147483647 : Int32)) % (100000 : Int32)))), .val (.ref b182), .val (.long ((p3.toInt64) &&& (4294967295 : Int64))), .second, .val (.int (0 : Int32)), .val (.int (if p3 < 0 then (0 : Int32) else if p3 < ((1 : Int32) + ((p2 &&& (2147483647 : Int32)) % (100000 : Int32))) then 1 else 0)), .unset] [(.int (((1 : Int32) + ((p2 &&& (2147483647 : Int32)) % (100000 : Int32))) - (1 : Int32))), (.ref b182)])) rfl (by rw [hml]; rfl) (Steps.refl _) (argsL := [(.int (((1 : Int32) + ((p2 &&& (2147483647 : Int32)) % (100000 : Int32))) - (1 : Int32)))]) (rest := []) (lenOf own_pd15 rfl) rfl (by show 2 * 0 + _ ≤ _; exact Nat.le_of_eq rfl) (hb hby at_74) (fun _ _ => ⟨rfl, eh229, (by decide : 4 + 0 ≤ _), (by decide : 9 + 0 ≤ _)⟩)
    dsimp only [Pt.U, Pt.locs, Pt.cells, Pt.slots] at X231 l231 y231 z231 st231 hQ231
    subst l231 y231 z231
    obtain ⟨N231q, rfl, eh231⟩ := hQ231
    have N232 := Fr.app N230 N231q
    refine own_tr st231 ?_
    show own_Go p e below s _ _ _ (T231.setTop (mkF m 77 #[.val (.int p1), .val (.int p2), .val (.int p3), .val (.int ((1 : Int32) + ((p2 &&& (2147483647 : Int32)) % (100000 : Int32)))), .val (.ref b182), .val (.long ((p3.toInt64) &&& (4294967295 : Int64))), .second, .val (.int (0 : Int32)), .val (.int (if p3 < 0 then (0 : Int32) else if p3 < ((1 : Int32) + ((p2 &&& (2147483647 : Int32)) % (100000 : Int32))) then 1 else 0)), .unset] [(.int (if (((1 : Int32) + ((p2 &&& (2147483647 : Int32)) % (100000 : Int32))) - (1 : Int32)) < 0 then (0 : Int32) else if (((1 : Int32) + ((p2 &&& (2147483647 : Int32)) % (100000 : Int32))) - (1 : Int32)) < ((1 : Int32) + ((p2 &&& (2147483647 : Int32)) % (100000 : Int32))) then 1 else 0))]))
    refine own_st (fun _ k => XS.ifNo X231.here hx rfl (hb hby at_77) rfl (XT.i0_eq_f (by simp [hn4, hn5])) k) ?_
    show own_Go p e below s _ _ _ (T231.setTop (mkF m 80 #[.val (.int p1), .val (.int p2), .val (.int p3), .val (.int ((1 : Int32) + ((p2 &&& (2147483647 : Int32)) % (100000 : Int32)))), .val (.ref b182), .val (.long ((p3.toInt64) &&& (4294967295 : Int64))), .second, .val (.int (0 : Int32)), .val (.int (if p3 < 0 then (0 : Int32) else if p3 < ((1 : Int32) + ((p2 &&& (2147483647 : Int32)) % (100000 : Int32))) then 1 else 0)), .unset] []))
    refine own_st (fun _ k => XS.aload X231.here hx rfl (hb hby at_80) rfl rfl k) ?_
    show own_Go p e below s _ _ _ (T231.setTop (mkF m 82 #[.val (.int p1), .val (.int p2), .val (.int p3), .val (.int ((1 : Int32) + ((p2 &&& (2147483647 : Int32)) % (100000 : Int32)))), .val (.ref b182), .val (.long ((p3.toInt64) &&& (4294967295 : Int64))), .second, .val (.int (0 : Int32)), .val (.int (if p3 < 0 then (0 : Int32) else if p3 < ((1 : Int32) + ((p2 &&& (2147483647 : Int32)) % (100000 : Int32))) then 1 else 0)), .unset] [(.ref b182)]))
    refine own_st (fun _ k => XS.iloadN X231.here hx rfl (hb hby at_82) rfl k) ?_
    show own_Go p e below s _ _ _ (T231.setTop (mkF m 83 #[.val (.int p1), .val (.int p2), .val (.int p3), .val (.int ((1 : Int32) + ((p2 &&& (2147483647 : Int32)) % (100000 : Int32)))), .val (.ref b182), .val (.long ((p3.toInt64) &&& (4294967295 : Int64))), .second, .val (.int (0 : Int32)), .val (.int (if p3 < 0 then (0 : Int32) else if p3 < ((1 : Int32) + ((p2 &&& (2147483647 : Int32)) % (100000 : Int32))) then 1 else 0)), .unset] [(.int ((1 : Int32) + ((p2 &&& (2147483647 : Int32)) % (100000 : Int32)))), (.ref b182)]))
    obtain ⟨cq233, kq233, q233a, q233b, q233c⟩ := isOf hZ eh231 q208
    obtain ⟨_, _, ⟨T233, L233, k233, n233⟩, -, X233, ⟨Lc233, hQ233, l233, y233, z233⟩, st233⟩ := X231.virtualBack hx (y := (⟨"com/example/indri/indri/calls/Topic", "hasPartition", "(I)Z"⟩ : MethodName)) (z := (⟨"com/example/indri/indri/calls/Topic", "hasPartition", "(I)Z"⟩ : MethodName)) hown (mvT hZ (hw _ (List.mem_of_getElem? (i := 87) rfl))) (mvT hZ (hw _ (List.mem_of_getElem? (i := 88) rfl))) (notFace_of_selects (args := #[]) (mvT hZ (hw _ (List.mem_of_getElem? (i := 90) rfl)))) (mvT hZ (hw _ (List.mem_of_getElem? (i := 90) rfl))) (mvT hZ (hw _ (List.mem_of_getElem? (i := 89) rfl))) (by decide) (backOf (W := 0) (own_rm_hp l Z a0 hw [] b182 ((1 : Int32) + ((p2 &&& (2147483647 : Int32)) % (100000 : Int32))) ((1 : Int32) + ((p2 &&& (2147483647 : Int32)) % (100000 : Int32))) T203.heap n0 Zs211 q209) hZ (hw _ (List.mem_of_getElem? (i := 91) rfl)) (hw _ (List.mem_of_getElem? (i := 4) rfl)) (by decide) (by decide)) q233a q233c (g := (mkF m 83 #[.val (.int p1), .val (.int p2), .val (.int p3), .val (.int ((1 : Int32) + ((p2 &&& (2147483647 : Int32)) % (100000 : Int32)))), .val (.ref b182), .val (.long ((p3.toInt64) &&& (4294967295 : Int64))), .second, .val (.int (0 : Int32)), .val (.int (if p3 < 0 then (0 : Int32) else if p3 < ((1 : Int32) + ((p2 &&& (2147483647 : Int32)) % (100000 : Int32))) then 1 else 0)), .unset] [(.int ((1 : Int32) + ((p2 &&& (2147483647 : Int32)) % (100000 : Int32)))), (.ref b182)])) rfl (by rw [hml]; rfl) (Steps.refl _) (argsL := [(.int ((1 : Int32) + ((p2 &&& (2147483647 : Int32)) % (100000 : Int32))))]) (rest := []) (lenOf own_pd15 rfl) rfl (by show 2 * 0 + _ ≤ _; exact Nat.le_of_eq rfl) (hb hby at_83) (fun _ _ => ⟨rfl, eh231, (by decide : 4 + 0 ≤ _), (by decide : 9 + 0 ≤ _)⟩)
    dsimp only [Pt.U, Pt.locs, Pt.cells, Pt.slots] at X233 l233 y233 z233 st233 hQ233
    subst l233 y233 z233
    obtain ⟨N233q, rfl, eh233⟩ := hQ233
    have N234 := Fr.app N232 N233q
    refine own_tr st233 ?_
    show own_Go p e below s _ _ _ (T233.setTop (mkF m 86 #[.val (.int p1), .val (.int p2), .val (.int p3), .val (.int ((1 : Int32) + ((p2 &&& (2147483647 : Int32)) % (100000 : Int32)))), .val (.ref b182), .val (.long ((p3.toInt64) &&& (4294967295 : Int64))), .second, .val (.int (0 : Int32)), .val (.int (if p3 < 0 then (0 : Int32) else if p3 < ((1 : Int32) + ((p2 &&& (2147483647 : Int32)) % (100000 : Int32))) then 1 else 0)), .unset] [(.int (if ((1 : Int32) + ((p2 &&& (2147483647 : Int32)) % (100000 : Int32))) < 0 then (0 : Int32) else if ((1 : Int32) + ((p2 &&& (2147483647 : Int32)) % (100000 : Int32))) < ((1 : Int32) + ((p2 &&& (2147483647 : Int32)) % (100000 : Int32))) then 1 else 0))]))
    refine own_st (fun _ k => XS.ifNo X233.here hx rfl (hb hby at_86) rfl (XT.i0_ne_f (by simp [hn6])) k) ?_
    show own_Go p e below s _ _ _ (T233.setTop (mkF m 89 #[.val (.int p1), .val (.int p2), .val (.int p3), .val (.int ((1 : Int32) + ((p2 &&& (2147483647 : Int32)) % (100000 : Int32)))), .val (.ref b182), .val (.long ((p3.toInt64) &&& (4294967295 : Int64))), .second, .val (.int (0 : Int32)), .val (.int (if p3 < 0 then (0 : Int32) else if p3 < ((1 : Int32) + ((p2 &&& (2147483647 : Int32)) % (100000 : Int32))) then 1 else 0)), .unset] []))
    refine own_st (fun _ k => XS.aload X233.here hx rfl (hb hby at_89) rfl rfl k) ?_
    show own_Go p e below s _ _ _ (T233.setTop (mkF m 91 #[.val (.int p1), .val (.int p2), .val (.int p3), .val (.int ((1 : Int32) + ((p2 &&& (2147483647 : Int32)) % (100000 : Int32)))), .val (.ref b182), .val (.long ((p3.toInt64) &&& (4294967295 : Int64))), .second, .val (.int (0 : Int32)), .val (.int (if p3 < 0 then (0 : Int32) else if p3 < ((1 : Int32) + ((p2 &&& (2147483647 : Int32)) % (100000 : Int32))) then 1 else 0)), .unset] [(.ref b182)]))
    refine own_st (fun _ k => XT.iconstV X233.here hx rfl (-1 : Int32) (hb hby at_91) (by decide) k) ?_
    show own_Go p e below s _ _ _ (T233.setTop (mkF m 92 #[.val (.int p1), .val (.int p2), .val (.int p3), .val (.int ((1 : Int32) + ((p2 &&& (2147483647 : Int32)) % (100000 : Int32)))), .val (.ref b182), .val (.long ((p3.toInt64) &&& (4294967295 : Int64))), .second, .val (.int (0 : Int32)), .val (.int (if p3 < 0 then (0 : Int32) else if p3 < ((1 : Int32) + ((p2 &&& (2147483647 : Int32)) % (100000 : Int32))) then 1 else 0)), .unset] [(.int (-1 : Int32)), (.ref b182)]))
    obtain ⟨cq235, kq235, q235a, q235b, q235c⟩ := isOf hZ eh233 q208
    obtain ⟨_, _, ⟨T235, L235, k235, n235⟩, -, X235, ⟨Lc235, hQ235, l235, y235, z235⟩, st235⟩ := X233.virtualBack hx (y := (⟨"com/example/indri/indri/calls/Topic", "hasPartition", "(I)Z"⟩ : MethodName)) (z := (⟨"com/example/indri/indri/calls/Topic", "hasPartition", "(I)Z"⟩ : MethodName)) hown (mvT hZ (hw _ (List.mem_of_getElem? (i := 87) rfl))) (mvT hZ (hw _ (List.mem_of_getElem? (i := 88) rfl))) (notFace_of_selects (args := #[]) (mvT hZ (hw _ (List.mem_of_getElem? (i := 90) rfl)))) (mvT hZ (hw _ (List.mem_of_getElem? (i := 90) rfl))) (mvT hZ (hw _ (List.mem_of_getElem? (i := 89) rfl))) (by decide) (backOf (W := 0) (own_rm_hp l Z a0 hw [] b182 (-1 : Int32) ((1 : Int32) + ((p2 &&& (2147483647 : Int32)) % (100000 : Int32))) T203.heap n0 Zs211 q209) hZ (hw _ (List.mem_of_getElem? (i := 91) rfl)) (hw _ (List.mem_of_getElem? (i := 4) rfl)) (by decide) (by decide)) q235a q235c (g := (mkF m 92 #[.val (.int p1), .val (.int p2), .val (.int p3), .val (.int ((1 : Int32) + ((p2 &&& (2147483647 : Int32)) % (100000 : Int32)))), .val (.ref b182), .val (.long ((p3.toInt64) &&& (4294967295 : Int64))), .second, .val (.int (0 : Int32)), .val (.int (if p3 < 0 then (0 : Int32) else if p3 < ((1 : Int32) + ((p2 &&& (2147483647 : Int32)) % (100000 : Int32))) then 1 else 0)), .unset] [(.int (-1 : Int32)), (.ref b182)])) rfl (by rw [hml]; rfl) (Steps.refl _) (argsL := [(.int (-1 : Int32))]) (rest := []) (lenOf own_pd15 rfl) rfl (by show 2 * 0 + _ ≤ _; exact Nat.le_of_eq rfl) (hb hby at_92) (fun _ _ => ⟨rfl, eh233, (by decide : 4 + 0 ≤ _), (by decide : 9 + 0 ≤ _)⟩)
    dsimp only [Pt.U, Pt.locs, Pt.cells, Pt.slots] at X235 l235 y235 z235 st235 hQ235
    subst l235 y235 z235
    obtain ⟨N235q, rfl, eh235⟩ := hQ235
    have N236 := Fr.app N234 N235q
    refine own_tr st235 ?_
    show own_Go p e below s _ _ _ (T235.setTop (mkF m 95 #[.val (.int p1), .val (.int p2), .val (.int p3), .val (.int ((1 : Int32) + ((p2 &&& (2147483647 : Int32)) % (100000 : Int32)))), .val (.ref b182), .val (.long ((p3.toInt64) &&& (4294967295 : Int64))), .second, .val (.int (0 : Int32)), .val (.int (if p3 < 0 then (0 : Int32) else if p3 < ((1 : Int32) + ((p2 &&& (2147483647 : Int32)) % (100000 : Int32))) then 1 else 0)), .unset] [(.int (if (-1 : Int32) < 0 then (0 : Int32) else if (-1 : Int32) < ((1 : Int32) + ((p2 &&& (2147483647 : Int32)) % (100000 : Int32))) then 1 else 0))]))
    refine own_st (fun _ k => XS.ifNo X235.here hx rfl (hb hby at_95) rfl (XT.i0_ne_f (by rw [if_pos (by decide)])) k) ?_
    show own_Go p e below s _ _ _ (T235.setTop (mkF m 98 #[.val (.int p1), .val (.int p2), .val (.int p3), .val (.int ((1 : Int32) + ((p2 &&& (2147483647 : Int32)) % (100000 : Int32)))), .val (.ref b182), .val (.long ((p3.toInt64) &&& (4294967295 : Int64))), .second, .val (.int (0 : Int32)), .val (.int (if p3 < 0 then (0 : Int32) else if p3 < ((1 : Int32) + ((p2 &&& (2147483647 : Int32)) % (100000 : Int32))) then 1 else 0)), .unset] []))
    refine own_st (fun _ k => XS.aload X235.here hx rfl (hb hby at_98) rfl rfl k) ?_
    show own_Go p e below s _ _ _ (T235.setTop (mkF m 100 #[.val (.int p1), .val (.int p2), .val (.int p3), .val (.int ((1 : Int32) + ((p2 &&& (2147483647 : Int32)) % (100000 : Int32)))), .val (.ref b182), .val (.long ((p3.toInt64) &&& (4294967295 : Int64))), .second, .val (.int (0 : Int32)), .val (.int (if p3 < 0 then (0 : Int32) else if p3 < ((1 : Int32) + ((p2 &&& (2147483647 : Int32)) % (100000 : Int32))) then 1 else 0)), .unset] [(.ref b182)]))
    refine own_st (fun _ k => X235.ldcI hx hown (mvT hZ (hw _ (List.mem_of_getElem? (i := 92) rfl))) rfl (hb hby at_100) k) ?_
    show own_Go p e below s _ _ _ (T235.setTop (mkF m 102 #[.val (.int p1), .val (.int p2), .val (.int p3), .val (.int ((1 : Int32) + ((p2 &&& (2147483647 : Int32)) % (100000 : Int32)))), .val (.ref b182), .val (.long ((p3.toInt64) &&& (4294967295 : Int64))), .second, .val (.int (0 : Int32)), .val (.int (if p3 < 0 then (0 : Int32) else if p3 < ((1 : Int32) + ((p2 &&& (2147483647 : Int32)) % (100000 : Int32))) then 1 else 0)), .unset] [(.int (-2147483648 : Int32)), (.ref b182)]))
    obtain ⟨cq237, kq237, q237a, q237b, q237c⟩ := isOf hZ eh235 q208
    obtain ⟨_, _, ⟨T237, L237, k237, n237⟩, -, X237, ⟨Lc237, hQ237, l237, y237, z237⟩, st237⟩ := X235.virtualBack hx (y := (⟨"com/example/indri/indri/calls/Topic", "hasPartition", "(I)Z"⟩ : MethodName)) (z := (⟨"com/example/indri/indri/calls/Topic", "hasPartition", "(I)Z"⟩ : MethodName)) hown (mvT hZ (hw _ (List.mem_of_getElem? (i := 87) rfl))) (mvT hZ (hw _ (List.mem_of_getElem? (i := 88) rfl))) (notFace_of_selects (args := #[]) (mvT hZ (hw _ (List.mem_of_getElem? (i := 90) rfl)))) (mvT hZ (hw _ (List.mem_of_getElem? (i := 90) rfl))) (mvT hZ (hw _ (List.mem_of_getElem? (i := 89) rfl))) (by decide) (backOf (W := 0) (own_rm_hp l Z a0 hw [] b182 (-2147483648 : Int32) ((1 : Int32) + ((p2 &&& (2147483647 : Int32)) % (100000 : Int32))) T203.heap n0 Zs211 q209) hZ (hw _ (List.mem_of_getElem? (i := 91) rfl)) (hw _ (List.mem_of_getElem? (i := 4) rfl)) (by decide) (by decide)) q237a q237c (g := (mkF m 102 #[.val (.int p1), .val (.int p2), .val (.int p3), .val (.int ((1 : Int32) + ((p2 &&& (2147483647 : Int32)) % (100000 : Int32)))), .val (.ref b182), .val (.long ((p3.toInt64) &&& (4294967295 : Int64))), .second, .val (.int (0 : Int32)), .val (.int (if p3 < 0 then (0 : Int32) else if p3 < ((1 : Int32) + ((p2 &&& (2147483647 : Int32)) % (100000 : Int32))) then 1 else 0)), .unset] [(.int (-2147483648 : Int32)), (.ref b182)])) rfl (by rw [hml]; rfl) (Steps.refl _) (argsL := [(.int (-2147483648 : Int32))]) (rest := []) (lenOf own_pd15 rfl) rfl (by show 2 * 0 + _ ≤ _; exact Nat.le_of_eq rfl) (hb hby at_102) (fun _ _ => ⟨rfl, eh235, (by decide : 4 + 0 ≤ _), (by decide : 9 + 0 ≤ _)⟩)
    dsimp only [Pt.U, Pt.locs, Pt.cells, Pt.slots] at X237 l237 y237 z237 st237 hQ237
    subst l237 y237 z237
    obtain ⟨N237q, rfl, eh237⟩ := hQ237
    have N238 := Fr.app N236 N237q
    refine own_tr st237 ?_
    show own_Go p e below s _ _ _ (T237.setTop (mkF m 105 #[.val (.int p1), .val (.int p2), .val (.int p3), .val (.int ((1 : Int32) + ((p2 &&& (2147483647 : Int32)) % (100000 : Int32)))), .val (.ref b182), .val (.long ((p3.toInt64) &&& (4294967295 : Int64))), .second, .val (.int (0 : Int32)), .val (.int (if p3 < 0 then (0 : Int32) else if p3 < ((1 : Int32) + ((p2 &&& (2147483647 : Int32)) % (100000 : Int32))) then 1 else 0)), .unset] [(.int (if (-2147483648 : Int32) < 0 then (0 : Int32) else if (-2147483648 : Int32) < ((1 : Int32) + ((p2 &&& (2147483647 : Int32)) % (100000 : Int32))) then 1 else 0))]))
    refine own_st (fun _ k => XS.ifNo X237.here hx rfl (hb hby at_105) rfl (XT.i0_ne_f (by rw [if_pos (by decide)])) k) ?_
    show own_Go p e below s _ _ _ (T237.setTop (mkF m 108 #[.val (.int p1), .val (.int p2), .val (.int p3), .val (.int ((1 : Int32) + ((p2 &&& (2147483647 : Int32)) % (100000 : Int32)))), .val (.ref b182), .val (.long ((p3.toInt64) &&& (4294967295 : Int64))), .second, .val (.int (0 : Int32)), .val (.int (if p3 < 0 then (0 : Int32) else if p3 < ((1 : Int32) + ((p2 &&& (2147483647 : Int32)) % (100000 : Int32))) then 1 else 0)), .unset] []))
    refine own_st (fun _ k => XS.aload X237.here hx rfl (hb hby at_108) rfl rfl k) ?_
    show own_Go p e below s _ _ _ (T237.setTop (mkF m 110 #[.val (.int p1), .val (.int p2), .val (.int p3), .val (.int ((1 : Int32) + ((p2 &&& (2147483647 : Int32)) % (100000 : Int32)))), .val (.ref b182), .val (.long ((p3.toInt64) &&& (4294967295 : Int64))), .second, .val (.int (0 : Int32)), .val (.int (if p3 < 0 then (0 : Int32) else if p3 < ((1 : Int32) + ((p2 &&& (2147483647 : Int32)) % (100000 : Int32))) then 1 else 0)), .unset] [(.ref b182)]))
    refine own_st (fun _ k => X237.ldcI hx hown (mvT hZ (hw _ (List.mem_of_getElem? (i := 0) rfl))) rfl (hb hby at_110) k) ?_
    show own_Go p e below s _ _ _ (T237.setTop (mkF m 112 #[.val (.int p1), .val (.int p2), .val (.int p3), .val (.int ((1 : Int32) + ((p2 &&& (2147483647 : Int32)) % (100000 : Int32)))), .val (.ref b182), .val (.long ((p3.toInt64) &&& (4294967295 : Int64))), .second, .val (.int (0 : Int32)), .val (.int (if p3 < 0 then (0 : Int32) else if p3 < ((1 : Int32) + ((p2 &&& (2147483647 : Int32)) % (100000 : Int32))) then 1 else 0)), .unset] [(.int (2147483647 : Int32)), (.ref b182)]))
    obtain ⟨cq239, kq239, q239a, q239b, q239c⟩ := isOf hZ eh237 q208
    obtain ⟨_, _, ⟨T239, L239, k239, n239⟩, -, X239, ⟨Lc239, hQ239, l239, y239, z239⟩, st239⟩ := X237.virtualBack hx (y := (⟨"com/example/indri/indri/calls/Topic", "hasPartition", "(I)Z"⟩ : MethodName)) (z := (⟨"com/example/indri/indri/calls/Topic", "hasPartition", "(I)Z"⟩ : MethodName)) hown (mvT hZ (hw _ (List.mem_of_getElem? (i := 87) rfl))) (mvT hZ (hw _ (List.mem_of_getElem? (i := 88) rfl))) (notFace_of_selects (args := #[]) (mvT hZ (hw _ (List.mem_of_getElem? (i := 90) rfl)))) (mvT hZ (hw _ (List.mem_of_getElem? (i := 90) rfl))) (mvT hZ (hw _ (List.mem_of_getElem? (i := 89) rfl))) (by decide) (backOf (W := 0) (own_rm_hp l Z a0 hw [] b182 (2147483647 : Int32) ((1 : Int32) + ((p2 &&& (2147483647 : Int32)) % (100000 : Int32))) T203.heap n0 Zs211 q209) hZ (hw _ (List.mem_of_getElem? (i := 91) rfl)) (hw _ (List.mem_of_getElem? (i := 4) rfl)) (by decide) (by decide)) q239a q239c (g := (mkF m 112 #[.val (.int p1), .val (.int p2), .val (.int p3), .val (.int ((1 : Int32) + ((p2 &&& (2147483647 : Int32)) % (100000 : Int32)))), .val (.ref b182), .val (.long ((p3.toInt64) &&& (4294967295 : Int64))), .second, .val (.int (0 : Int32)), .val (.int (if p3 < 0 then (0 : Int32) else if p3 < ((1 : Int32) + ((p2 &&& (2147483647 : Int32)) % (100000 : Int32))) then 1 else 0)), .unset] [(.int (2147483647 : Int32)), (.ref b182)])) rfl (by rw [hml]; rfl) (Steps.refl _) (argsL := [(.int (2147483647 : Int32))]) (rest := []) (lenOf own_pd15 rfl) rfl (by show 2 * 0 + _ ≤ _; exact Nat.le_of_eq rfl) (hb hby at_112) (fun _ _ => ⟨rfl, eh237, (by decide : 4 + 0 ≤ _), (by decide : 9 + 0 ≤ _)⟩)
    dsimp only [Pt.U, Pt.locs, Pt.cells, Pt.slots] at X239 l239 y239 z239 st239 hQ239
    subst l239 y239 z239
    obtain ⟨N239q, rfl, eh239⟩ := hQ239
    have N240 := Fr.app N238 N239q
    refine own_tr st239 ?_
    show own_Go p e below s _ _ _ (T239.setTop (mkF m 115 #[.val (.int p1), .val (.int p2), .val (.int p3), .val (.int ((1 : Int32) + ((p2 &&& (2147483647 : Int32)) % (100000 : Int32)))), .val (.ref b182), .val (.long ((p3.toInt64) &&& (4294967295 : Int64))), .second, .val (.int (0 : Int32)), .val (.int (if p3 < 0 then (0 : Int32) else if p3 < ((1 : Int32) + ((p2 &&& (2147483647 : Int32)) % (100000 : Int32))) then 1 else 0)), .unset] [(.int (if (2147483647 : Int32) < 0 then (0 : Int32) else if (2147483647 : Int32) < ((1 : Int32) + ((p2 &&& (2147483647 : Int32)) % (100000 : Int32))) then 1 else 0))]))
    refine own_st (fun _ k => XS.ifNo X239.here hx rfl (hb hby at_115) rfl (XT.i0_ne_f (by simp [hn7])) k) ?_
    show own_Go p e below s _ _ _ (T239.setTop (mkF m 118 #[.val (.int p1), .val (.int p2), .val (.int p3), .val (.int ((1 : Int32) + ((p2 &&& (2147483647 : Int32)) % (100000 : Int32)))), .val (.ref b182), .val (.long ((p3.toInt64) &&& (4294967295 : Int64))), .second, .val (.int (0 : Int32)), .val (.int (if p3 < 0 then (0 : Int32) else if p3 < ((1 : Int32) + ((p2 &&& (2147483647 : Int32)) % (100000 : Int32))) then 1 else 0)), .unset] []))
    refine own_st (fun _ k => XT.iconstV X239.here hx rfl (1 : Int32) (hb hby at_118) (by decide) k) ?_
    show own_Go p e below s _ _ _ (T239.setTop (mkF m 119 #[.val (.int p1), .val (.int p2), .val (.int p3), .val (.int ((1 : Int32) + ((p2 &&& (2147483647 : Int32)) % (100000 : Int32)))), .val (.ref b182), .val (.long ((p3.toInt64) &&& (4294967295 : Int64))), .second, .val (.int (0 : Int32)), .val (.int (if p3 < 0 then (0 : Int32) else if p3 < ((1 : Int32) + ((p2 &&& (2147483647 : Int32)) % (100000 : Int32))) then 1 else 0)), .unset] [(.int (1 : Int32))]))
    refine own_st (fun _ k => XS.goto X239.here hx rfl (pc0 := 119) (pc' := 123) rfl (hb hby at_119) (by decide) (by decide) k) ?_
    show own_Go p e below s _ _ _ (T239.setTop (mkF m 123 #[.val (.int p1), .val (.int p2), .val (.int p3), .val (.int ((1 : Int32) + ((p2 &&& (2147483647 : Int32)) % (100000 : Int32)))), .val (.ref b182), .val (.long ((p3.toInt64) &&& (4294967295 : Int64))), .second, .val (.int (0 : Int32)), .val (.int (if p3 < 0 then (0 : Int32) else if p3 < ((1 : Int32) + ((p2 &&& (2147483647 : Int32)) % (100000 : Int32))) then 1 else 0)), .unset] [(.int (1 : Int32))]))
    refine own_st (fun _ k => XS.istore X239.here hx rfl (hb hby at_123) rfl (l' := #[.val (.int p1), .val (.int p2), .val (.int p3), .val (.int ((1 : Int32) + ((p2 &&& (2147483647 : Int32)) % (100000 : Int32)))), .val (.ref b182), .val (.long ((p3.toInt64) &&& (4294967295 : Int64))), .second, .val (.int (0 : Int32)), .val (.int (if p3 < 0 then (0 : Int32) else if p3 < ((1 : Int32) + ((p2 &&& (2147483647 : Int32)) % (100000 : Int32))) then 1 else 0)), .val (.int (1 : Int32))]) rfl k) ?_
    show own_Go p e below s _ _ _ (T239.setTop (mkF m 125 #[.val (.int p1), .val (.int p2), .val (.int p3), .val (.int ((1 : Int32) + ((p2 &&& (2147483647 : Int32)) % (100000 : Int32)))), .val (.ref b182), .val (.long ((p3.toInt64) &&& (4294967295 : Int64))), .second, .val (.int (0 : Int32)), .val (.int (if p3 < 0 then (0 : Int32) else if p3 < ((1 : Int32) + ((p2 &&& (2147483647 : Int32)) % (100000 : Int32))) then 1 else 0)), .val (.int (1 : Int32))] []))
    refine own_st (fun _ k => XS.iload X239.here hx rfl (hb hby at_125) rfl k) ?_
    show own_Go p e below s _ _ _ (T239.setTop (mkF m 127 #[.val (.int p1), .val (.int p2), .val (.int p3), .val (.int ((1 : Int32) + ((p2 &&& (2147483647 : Int32)) % (100000 : Int32)))), .val (.ref b182), .val (.long ((p3.toInt64) &&& (4294967295 : Int64))), .second, .val (.int (0 : Int32)), .val (.int (if p3 < 0 then (0 : Int32) else if p3 < ((1 : Int32) + ((p2 &&& (2147483647 : Int32)) % (100000 : Int32))) then 1 else 0)), .val (.int (1 : Int32))] [(.int (if p3 < 0 then (0 : Int32) else if p3 < ((1 : Int32) + ((p2 &&& (2147483647 : Int32)) % (100000 : Int32))) then 1 else 0))]))
    refine own_st (fun _ k => XS.iload X239.here hx rfl (hb hby at_127) rfl k) ?_
    show own_Go p e below s _ _ _ (T239.setTop (mkF m 129 #[.val (.int p1), .val (.int p2), .val (.int p3), .val (.int ((1 : Int32) + ((p2 &&& (2147483647 : Int32)) % (100000 : Int32)))), .val (.ref b182), .val (.long ((p3.toInt64) &&& (4294967295 : Int64))), .second, .val (.int (0 : Int32)), .val (.int (if p3 < 0 then (0 : Int32) else if p3 < ((1 : Int32) + ((p2 &&& (2147483647 : Int32)) % (100000 : Int32))) then 1 else 0)), .val (.int (1 : Int32))] [(.int (0 : Int32)), (.int (if p3 < 0 then (0 : Int32) else if p3 < ((1 : Int32) + ((p2 &&& (2147483647 : Int32)) % (100000 : Int32))) then 1 else 0))]))
    refine own_st (fun _ k => XS.icmpNo X239.here hx rfl (hb hby at_129) rfl (XT.ii_ne_f (by by_cases q1 : p3 < 0 <;> by_cases q2 : p3 < ((1 : Int32) + ((p2 &&& (2147483647 : Int32)) % (100000 : Int32))) <;> simp [q1, q2]; exact absurd (hun.mpr ⟨q1, q2⟩) hc212)) k) ?_
    show own_Go p e below s _ _ _ (T239.setTop (mkF m 132 #[.val (.int p1), .val (.int p2), .val (.int p3), .val (.int ((1 : Int32) + ((p2 &&& (2147483647 : Int32)) % (100000 : Int32)))), .val (.ref b182), .val (.long ((p3.toInt64) &&& (4294967295 : Int64))), .second, .val (.int (0 : Int32)), .val (.int (if p3 < 0 then (0 : Int32) else if p3 < ((1 : Int32) + ((p2 &&& (2147483647 : Int32)) % (100000 : Int32))) then 1 else 0)), .val (.int (1 : Int32))] []))
    refine own_st (fun _ k => XS.iload X239.here hx rfl (hb hby at_132) rfl k) ?_
    show own_Go p e below s _ _ _ (T239.setTop (mkF m 134 #[.val (.int p1), .val (.int p2), .val (.int p3), .val (.int ((1 : Int32) + ((p2 &&& (2147483647 : Int32)) % (100000 : Int32)))), .val (.ref b182), .val (.long ((p3.toInt64) &&& (4294967295 : Int64))), .second, .val (.int (0 : Int32)), .val (.int (if p3 < 0 then (0 : Int32) else if p3 < ((1 : Int32) + ((p2 &&& (2147483647 : Int32)) % (100000 : Int32))) then 1 else 0)), .val (.int (1 : Int32))] [(.int (1 : Int32))]))
    refine own_st (fun _ k => XS.ifNo X239.here hx rfl (hb hby at_134) rfl (XT.i0_eq_f (by decide)) k) ?_
    show own_Go p e below s _ _ _ (T239.setTop (mkF m 137 #[.val (.int p1), .val (.int p2), .val (.int p3), .val (.int ((1 : Int32) + ((p2 &&& (2147483647 : Int32)) % (100000 : Int32)))), .val (.ref b182), .val (.long ((p3.toInt64) &&& (4294967295 : Int64))), .second, .val (.int (0 : Int32)), .val (.int (if p3 < 0 then (0 : Int32) else if p3 < ((1 : Int32) + ((p2 &&& (2147483647 : Int32)) % (100000 : Int32))) then 1 else 0)), .val (.int (1 : Int32))] []))
    refine own_st (fun _ k => XT.iconstV X239.here hx rfl (1 : Int32) (hb hby at_137) (by decide) k) ?_
    show own_Go p e below s _ _ _ (T239.setTop (mkF m 138 #[.val (.int p1), .val (.int p2), .val (.int p3), .val (.int ((1 : Int32) + ((p2 &&& (2147483647 : Int32)) % (100000 : Int32)))), .val (.ref b182), .val (.long ((p3.toInt64) &&& (4294967295 : Int64))), .second, .val (.int (0 : Int32)), .val (.int (if p3 < 0 then (0 : Int32) else if p3 < ((1 : Int32) + ((p2 &&& (2147483647 : Int32)) % (100000 : Int32))) then 1 else 0)), .val (.int (1 : Int32))] [(.int (1 : Int32))]))
    refine own_st (fun _ k => XS.goto X239.here hx rfl (pc0 := 138) (pc' := 142) rfl (hb hby at_138) (by decide) (by decide) k) ?_
    show own_Go p e below s _ _ _ (T239.setTop (mkF m 142 #[.val (.int p1), .val (.int p2), .val (.int p3), .val (.int ((1 : Int32) + ((p2 &&& (2147483647 : Int32)) % (100000 : Int32)))), .val (.ref b182), .val (.long ((p3.toInt64) &&& (4294967295 : Int64))), .second, .val (.int (0 : Int32)), .val (.int (if p3 < 0 then (0 : Int32) else if p3 < ((1 : Int32) + ((p2 &&& (2147483647 : Int32)) % (100000 : Int32))) then 1 else 0)), .val (.int (1 : Int32))] [(.int (1 : Int32))]))
    refine own_retN X239 hx hlk Bd.returns (t := .boolean) (z' := (1 : Int32)) (by simp) (by decide) (hb hby at_142) (by decide) (by decide) ?_
    rw [eh239]
    exact ⟨N240, rfl⟩
set_option maxRecDepth 65536 in
set_option maxHeartbeats 40000000 in
theorem comes_1 {Post : Tables → Env → Array Value → State → Outcome → State → Prop} (hpost : ∀ tb e args s v u, (limb_1_1.after args s (.returned v) u = true ∧ limb_1_2.after args s (.returned v) u = true ∧ True) → FrameEnd s (.returned v) u (Jvm.fieldLocs frame_1_writes args s ++ Jvm.arrayLocs frame_1_arrays args s ++ Jvm.staticLocs frame_1_statics s) 16 128 → Post tb e args s (.returned v) u) :
    ArmFor flags0 classFile x code maxLocals ret World_1 tables_1 room_1 Calls_1 rest_1 Pre_1 Post := by
  intro l hfl _ _ p e ha hc hk s m args below hf hA hF happ hP
  obtain ⟨hcalls, hrest, hpre⟩ := hP
  obtain ⟨-, -, -, hnamed, -, -, -, hat⟩ := (Spec.applies_iff hf).mp happ
  obtain ⟨hg, hn⟩ := and_e (Cond.before_iff.mp (show (Jvm.Cond.and given_1 narrow_1).before args s = true from hpre))
  obtain ⟨gg0, hg0⟩ := and_e hg
  obtain ⟨gg1, hg1⟩ := and_e hg0
  obtain ⟨gg2, hg2⟩ := and_e hg1
  obtain ⟨w0, w1, w2, rfl⟩ : ∃ w0 w1 w2 : Value, args = #[w0, w1, w2] := by
    have hs : args.size = 3 := by simpa [Cond.value, given_1] using gg0
    obtain ⟨L⟩ := args
    match L, hs with
    | [w0, w1, w2], _ => exact ⟨w0, w1, w2, rfl⟩
  have hw := fun d (hd : d ∈ tables_1) => atoms_spec (ws := Jvm.Cond.code x code maxLocals ret :: tables_1) hat d (List.mem_cons_of_mem _ hd)
  have hfit : Fit s := fun {y c} hc i hi => by
    obtain ⟨ha, rfl⟩ := Array.getElem?_eq_some_iff.mp hc
    have q := List.all_eq_true.mp ((Array.all_eq_true_iff_forall_mem.mp hF) _ (Array.getElem_mem ha)) i (List.mem_range.mpr hi)
    simpa [Array.getElem?_eq_getElem hi] using q
  obtain ⟨i0, ei0⟩ := is_v gg1
  obtain rfl : w0 = (.int i0) := Option.some.inj ei0
  obtain ⟨i1, ei1⟩ := is_v gg2
  obtain rfl : w1 = (.int i1) := Option.some.inj ei1
  obtain ⟨i2, ei2⟩ := is_v hg2
  obtain rfl : w2 = (.int i2) := Option.some.inj ei2
  have hsets := (atoms_of jdkStatics_1 (rest_1_c_eq ▸ (show rest_1_c.before _ s = true from hrest))).1
  obtain ⟨a_cs, e_cs⟩ := is_v (Cond.before_iff.mp (hsets _ (List.mem_of_getElem? (i := 1) rfl)))
  have h_cs := own_neI (hsets _ (List.mem_of_getElem? (i := 2) rfl)) e_cs
  have S_cs : Sta s s.heap "java/lang/String" "COMPACT_STRINGS" "Z" (.int a_cs) := Sta.start e_cs (Or.inl (hsets _ (List.mem_of_getElem? (i := 0) rfl)))
  obtain ⟨a_utf, e_utf⟩ := exa_v (Cond.before_iff.mp (hsets _ (List.mem_of_getElem? (i := 17) rfl)))
  have e_utf1 := own_eqV (Cond.before_iff.mp (hsets _ (List.mem_of_getElem? (i := 13) rfl))) e_utf
  have S_u1 : Sta s s.heap "java/nio/charset/StandardCharsets" "UTF_8" "Ljava/nio/charset/Charset;" (.ref a_utf) := Sta.start e_utf1 (Or.inl (hsets _ (List.mem_of_getElem? (i := 10) rfl)))
  have S_u2 : Sta s s.heap "sun/nio/cs/UTF_8" "INSTANCE" "Lsun/nio/cs/UTF_8;" (.ref a_utf) := Sta.start e_utf (Or.inl (hsets _ (List.mem_of_getElem? (i := 12) rfl)))
  obtain ⟨n, o, h1, h2, h3, _, L, rfl, ⟨N, rfl⟩, hq⟩ := own_law l s _ hw tables_1 i0 i1 i2 a_cs a_utf s.heap s.heap.size (Nat.le_refl _) (Old.start s) S_cs h_cs S_u1 S_u2 p e ha hc hk s m _ below hf ((Spec.applies_iff_loose hf).mp happ).1 ⟨rfl, State.Warmed39.refl s, rfl⟩ trivial
  refine ⟨n, _, h1, h2, h3, hpost _ _ _ _ _ _ ⟨Cond.after_iff.mpr rfl, Cond.after_iff.mpr (eq_i res_at (Term.int_eval (1)) rfl), trivial⟩ ⟨hq.1, hq.2.1, (hq.2.2.sift fun y hy => Or.inr (N y hy)).mono (by decide) (by decide)⟩⟩
theorem main_1_1 : Claimed_1_1 := comes_1 fun _ _ _ _ _ _ h hF => ⟨h.1, hF⟩
theorem main_1_2 : Claimed_1_2 := comes_1 fun _ _ _ _ _ _ h hF => ⟨h.2.1, hF⟩
end Jvm.Pilot.@@N@@
namespace Jvm.Pilot.@@N@@
open Jvm Jvm.ClassFile Sem Op Lib Jvm.Free Jvm.Stand Jvm.Pilot.@@N@@.Jvm.D
/-! MADE BY PROGRAM (witnessworld.py) out of the Statement's table words and the real class files: 25 classes; the members and pool entries that the words name. The judged class is class 1, her method 1. -/
namespace start1
open Jvm.ClassFile
def u (s : String) : CpInfo := .utf8 (stringToUtf16 s)
/-- a pool by its gaps: so many unusable entries, then the entry; so many at the end -/
def gap : Nat → List CpInfo → List CpInfo
  | 0, r => r
  | n + 1, r => .unusable :: gap n r
def poolList (es : List (Nat × CpInfo)) (last : Nat) : List CpInfo := es.foldr (fun e r => gap e.1 (e.2 :: r)) (gap last [])
def pool (es : List (Nat × CpInfo)) (last : Nat) : Array CpInfo := ⟨poolList es last⟩
def fileOf (pool : Array CpInfo) (this : Nat) (attrs : Array Attribute := #[]) (ms : Array MethodInfo := #[]) (fl : Nat := 33) (sup : Nat := 0) (ifs : Array Nat := #[]) (fds : Array FieldInfo := #[]) : ClassFile where
  minorVersion := 0
  majorVersion := 65
  constantPool := pool
  accessFlags := fl
  thisClass := this
  superClass := sup
  interfaces := ifs
  fields := fds
  methods := ms
  attributes := attrs
def plain (name : String) (sup : Option ClassId) : Class where
  name := name
  kind := .ordinary
  loader := none
  accessFlags := 33
  super := sup
  interfaces := #[]
  cf := none
  fields := #[]
  methods := #[]
  instanceTypes := #[]
  staticTypes := #[]
  resolved := #[]
  callSites := []
  init := .initialized
  statics := none
  mirror := none

def pool0 : Array CpInfo := pool [(5, u "<init>"), (0, u "()V"), (1, .class_ 10), (1, u "java/lang/Object"), (85, u "clone"), (0, u "()Ljava/lang/Object;")] 26

def k0c0 : Code := { maxStack := 0, maxLocals := 1, code := object_method_1_code, exceptionTable := #[], attributes := #[] }
def k0m0 : Method := { name := "<init>", desc := "()V", sig := { parameters := [], returnType := none }, accessFlags := 1, code := some k0c0 }
def k0m1 : Method := { name := "clone", desc := "()Ljava/lang/Object;", sig := { parameters := [], returnType := some (.object "java/lang/Object") }, accessFlags := 260, code := none }
/-- java/lang/Object -/
def k0 : Class := { plain "java/lang/Object" none with
  accessFlags := 33
  interfaces := #[]
  cf := some (fileOf pool0 8 #[] #[{ accessFlags := 1, nameIndex := 5, descriptorIndex := 6, attributes := #[] }, { accessFlags := 260, nameIndex := 96, descriptorIndex := 97, attributes := #[] }] 33 0 #[] #[])
  fields := #[]
  methods := #[k0m0, k0m1]
  instanceTypes := #[]
  staticTypes := #[]
  resolved := Array.replicate 124 none
  statics := none }

def pool1 : Array CpInfo := pool [(2, .class_ 4), (1, u "java/lang/Object"), (0, u "<init>"), (0, u "()V"), (0, .integer 2147483647), (0, .integer 100000), (0, .class_ 10), (0, u "com/example/indri/indri/calls/Topic"), (0, .methodref 12 13), (0, .class_ 14), (0, .nameAndType 15 16), (0, u "java/lang/String"), (0, u "valueOf"), (0, u "(C)Ljava/lang/String;"), (0, .methodref 9 18), (0, .nameAndType 5 19), (0, u "(Ljava/lang/String;I)V"), (0, .long 4294967295), (1, .methodref 9 23), (0, .nameAndType 24 25), (0, u "hasPartition"), (0, u "(I)Z"), (2, .integer 2147483648), (0, .class_ 30), (0, u "com/example/indri/indri/calls/TopicHasPartitionPinLaw"), (2, u "law"), (0, u "(III)Z")] 3

def k1m0 : Method := { name := "<init>", desc := "()V", sig := { parameters := [], returnType := none }, accessFlags := 1, code := none }
def k1c1 : Code := { maxStack := 4, maxLocals := 10, code := code, exceptionTable := #[], attributes := #[] }
def k1m1 : Method := { name := "law", desc := "(III)Z", sig := { parameters := [.int, .int, .int], returnType := some .boolean }, accessFlags := 9, code := some k1c1 }
/-- com/example/indri/indri/calls/TopicHasPartitionPinLaw -/
def k1 : Class := { plain "com/example/indri/indri/calls/TopicHasPartitionPinLaw" (some 0) with
  accessFlags := 49
  interfaces := #[]
  cf := some (fileOf pool1 29 #[] #[{ accessFlags := 1, nameIndex := 5, descriptorIndex := 6, attributes := #[] }, { accessFlags := 9, nameIndex := 33, descriptorIndex := 34, attributes := #[] }] 49 2 #[] #[])
  fields := #[]
  methods := #[k1m0, k1m1]
  instanceTypes := #[]
  staticTypes := #[]
  resolved := Array.replicate 38 none
  statics := none }

def pool2 : Array CpInfo := pool [(1, .methodref 2 3), (0, .class_ 4), (0, .nameAndType 5 6), (0, u "java/lang/Object"), (0, u "<init>"), (0, u "()V"), (0, .class_ 8), (0, u "java/lang/Record")] 13

def k2c0 : Code := { maxStack := 1, maxLocals := 1, code := jdk_30_method_1_code, exceptionTable := #[], attributes := #[] }
def k2m0 : Method := { name := "<init>", desc := "()V", sig := { parameters := [], returnType := none }, accessFlags := 4, code := some k2c0 }
/-- java/lang/Record -/
def k2 : Class := { plain "java/lang/Record" (some 0) with
  accessFlags := 1057
  interfaces := #[]
  cf := some (fileOf pool2 7 #[] #[{ accessFlags := 4, nameIndex := 5, descriptorIndex := 6, attributes := #[] }] 1057 2 #[] #[])
  fields := #[]
  methods := #[k2m0]
  instanceTypes := #[]
  staticTypes := #[]
  resolved := Array.replicate 22 none
  statics := none }

def pool3 : Array CpInfo := pool [(1, .methodref 2 3), (0, .class_ 4), (0, .nameAndType 5 6), (0, u "java/lang/Record"), (0, u "<init>"), (0, u "()V"), (0, .methodref 8 9), (0, .class_ 10), (0, .nameAndType 11 12), (0, u "java/lang/String"), (0, u "isEmpty"), (0, u "()Z"), (7, .fieldref 21 22), (0, .class_ 23), (0, .nameAndType 24 25), (0, u "java/nio/charset/StandardCharsets"), (0, u "UTF_8"), (0, u "Ljava/nio/charset/Charset;"), (0, .methodref 8 27), (0, .nameAndType 28 29), (0, u "getBytes"), (0, u "(Ljava/nio/charset/Charset;)[B"), (8, .class_ 39), (0, u "com/example/indri/indri/calls/Topic"), (0, .integer 100000), (1, .fieldref 38 43), (0, .nameAndType 44 45), (0, u "name"), (0, u "Ljava/lang/String;"), (0, .fieldref 38 47), (0, .nameAndType 48 49), (0, u "partitions"), (0, u "I"), (44, u "(Ljava/lang/String;I)V"), (19, u "MAX_PARTITIONS"), (5, u "hasPartition"), (0, u "(I)Z")] 49

def k3c0 : Code := { maxStack := 3, maxLocals := 3, code := prog_20_method_1_code, exceptionTable := #[], attributes := #[] }
def k3m0 : Method := { name := "<init>", desc := "(Ljava/lang/String;I)V", sig := { parameters := [(.object "java/lang/String"), .int], returnType := none }, accessFlags := 1, code := some k3c0 }
def k3c1 : Code := { maxStack := 2, maxLocals := 2, code := prog_20_method_2_code, exceptionTable := #[], attributes := #[] }
def k3m1 : Method := { name := "hasPartition", desc := "(I)Z", sig := { parameters := [.int], returnType := some .boolean }, accessFlags := 0, code := some k3c1 }
/-- com/example/indri/indri/calls/Topic -/
def k3 : Class := { plain "com/example/indri/indri/calls/Topic" (some 2) with
  accessFlags := 49
  interfaces := #[]
  cf := some (fileOf pool3 38 #[] #[{ accessFlags := 1, nameIndex := 5, descriptorIndex := 94, attributes := #[] }, { accessFlags := 0, nameIndex := 120, descriptorIndex := 121, attributes := #[] }] 49 2 #[] #[{ accessFlags := 18, nameIndex := 44, descriptorIndex := 45, attributes := #[] }, { accessFlags := 18, nameIndex := 48, descriptorIndex := 49, attributes := #[] }, { accessFlags := 24, nameIndex := 114, descriptorIndex := 49, attributes := #[] }])
  fields := #[{ name := "name", type := (.object "java/lang/String"), accessFlags := 18, slot := 0, constantValue := 0 }, { name := "partitions", type := .int, accessFlags := 18, slot := 1, constantValue := 0 }, { name := "MAX_PARTITIONS", type := .int, accessFlags := 24, slot := 0, constantValue := 0 }]
  methods := #[k3m0, k3m1]
  instanceTypes := #[(.object "java/lang/String"), .int]
  staticTypes := #[.int]
  resolved := Array.replicate 171 none
  statics := none }

def pool4 : Array CpInfo := pool [(1, .class_ 2), (0, u "java/io/Serializable"), (0, .class_ 4), (0, u "java/lang/Object")] 2

/-- java/io/Serializable -/
def k4 : Class := { plain "java/io/Serializable" (some 0) with
  accessFlags := 1537
  interfaces := #[]
  cf := some (fileOf pool4 1 #[] #[] 1537 3 #[] #[])
  fields := #[]
  methods := #[]
  instanceTypes := #[]
  staticTypes := #[]
  resolved := Array.replicate 7 none
  statics := none }

def pool5 : Array CpInfo := pool [(1, .class_ 2), (0, u "java/lang/Comparable"), (0, .class_ 4), (0, u "java/lang/Object")] 7

/-- java/lang/Comparable -/
def k5 : Class := { plain "java/lang/Comparable" (some 0) with
  accessFlags := 1537
  interfaces := #[]
  cf := some (fileOf pool5 1 #[] #[] 1537 3 #[] #[])
  fields := #[]
  methods := #[]
  instanceTypes := #[]
  staticTypes := #[]
  resolved := Array.replicate 12 none
  statics := none }

def pool6 : Array CpInfo := pool [(2, .class_ 4), (1, u "java/lang/CharSequence"), (42, .class_ 48), (0, u "java/lang/CharSequence$1CodePointIterator"), (10, .class_ 60), (0, u "java/lang/CharSequence$1CharIterator"), (5, .class_ 67), (0, u "java/lang/Object")] 63

/-- java/lang/CharSequence -/
def k6 : Class := { plain "java/lang/CharSequence" (some 0) with
  accessFlags := 1537
  interfaces := #[]
  cf := some (fileOf pool6 2 #[.nestMembers #[47, 59]] #[] 1537 66 #[] #[])
  fields := #[]
  methods := #[]
  instanceTypes := #[]
  staticTypes := #[]
  resolved := Array.replicate 131 none
  statics := none }

def pool7 : Array CpInfo := pool [(1, .class_ 2), (0, u "java/lang/constant/Constable"), (0, .class_ 4), (0, u "java/lang/Object")] 6

/-- java/lang/constant/Constable -/
def k7 : Class := { plain "java/lang/constant/Constable" (some 0) with
  accessFlags := 1537
  interfaces := #[]
  cf := some (fileOf pool7 1 #[] #[] 1537 3 #[] #[])
  fields := #[]
  methods := #[]
  instanceTypes := #[]
  staticTypes := #[]
  resolved := Array.replicate 11 none
  statics := none }

def pool8 : Array CpInfo := pool [(1, .class_ 2), (0, u "java/lang/constant/ConstantDesc"), (0, .class_ 4), (0, u "java/lang/Object")] 32

/-- java/lang/constant/ConstantDesc -/
def k8 : Class := { plain "java/lang/constant/ConstantDesc" (some 0) with
  accessFlags := 1537
  interfaces := #[]
  cf := some (fileOf pool8 1 #[] #[] 1537 3 #[] #[])
  fields := #[]
  methods := #[]
  instanceTypes := #[]
  staticTypes := #[]
  resolved := Array.replicate 37 none
  statics := none }

def pool9 : Array CpInfo := pool [(1, .methodref 2 3), (0, .class_ 4), (0, .nameAndType 5 6), (0, u "java/lang/Object"), (0, u "<init>"), (0, u "()V"), (2, .fieldref 10 11), (0, .class_ 12), (0, .nameAndType 13 14), (0, u "java/lang/String"), (0, u "value"), (0, u "[B"), (0, .fieldref 10 16), (0, .nameAndType 17 18), (0, u "coder"), (0, u "B"), (2, u "hash"), (0, u "I"), (2, u "hashIsZero"), (0, u "Z"), (11, .fieldref 10 39), (0, .nameAndType 40 26), (0, u "COMPACT_STRINGS"), (1, .class_ 44), (1, u "java/lang/StringUTF16"), (8, u "toBytes"), (6, .methodref 42 61), (0, .nameAndType 62 63), (0, u "newBytesFor"), (0, u "(I)[B"), (22, .fieldref 87 88), (0, .class_ 89), (0, .nameAndType 90 91), (0, u "sun/nio/cs/UTF_8"), (0, u "INSTANCE"), (0, u "Lsun/nio/cs/UTF_8;"), (1, .class_ 95), (1, u "java/lang/StringCoding"), (11, .class_ 109), (1, u "java/lang/StringLatin1"), (18, .methodref 93 129), (0, .nameAndType 130 131), (0, u "hasNegatives"), (0, u "([BII)Z"), (10, u "()Z"), (66, .methodref 10 210), (0, .nameAndType 5 211), (0, u "([BB)V"), (40, .methodref 10 253), (0, .nameAndType 254 255), (0, u "encodeUTF8"), (0, u "(B[BZ)[B"), (23, .methodref 280 281), (0, .class_ 14), (0, .nameAndType 282 283), (0, u "clone"), (0, u "()Ljava/lang/Object;"), (33, u "encode"), (17, .methodref 10 336), (0, .nameAndType 17 337), (0, u "()B"), (31, u "(C)Z"), (162, u "getBytes"), (2, .methodref 10 536), (0, .nameAndType 317 537), (0, u "(Ljava/nio/charset/Charset;B[B)[B"), (37, .class_ 576), (0, u "java/lang/CharSequence"), (22, u "CASE_INSENSITIVE_ORDER"), (0, u "Ljava/util/Comparator;"), (91, u "isEmpty"), (89, u "valueOf"), (0, u "(C)Ljava/lang/String;"), (231, .methodref 107 1016), (0, .nameAndType 1017 369), (0, u "canEncode"), (0, .methodref 107 1019), (0, .nameAndType 53 1020), (0, u "(C)[B"), (80, u "serialPersistentFields"), (0, u "[Ljava/io/ObjectStreamField;"), (0, .class_ 1104), (0, u "java/lang/String$CaseInsensitiveComparator"), (1, .class_ 1107), (0, u "java/io/Serializable"), (0, .class_ 1109), (0, u "java/lang/Comparable"), (0, .class_ 1111), (0, u "java/lang/constant/Constable"), (0, .class_ 1113), (0, u "java/lang/constant/ConstantDesc"), (2, u "serialVersionUID"), (0, u "J"), (3, u "REPL"), (0, u "C"), (2, u "LATIN1"), (1, u "UTF16"), (117, u "(Ljava/nio/charset/Charset;)[B")] 205

def k9m0 : Method := { name := "<init>", desc := "()V", sig := { parameters := [], returnType := none }, accessFlags := 1, code := none }
def k9c1 : Code := { maxStack := 4, maxLocals := 3, code := jdk_42_method_18_code, exceptionTable := #[], attributes := #[] }
def k9m1 : Method := { name := "encode", desc := "(Ljava/nio/charset/Charset;B[B)[B", sig := { parameters := [(.object "java/nio/charset/Charset"), .byte, (.array .byte)], returnType := some (.array .byte) }, accessFlags := 10, code := some k9c1 }
def k9c2 : Code := { maxStack := 5, maxLocals := 9, code := jdk_42_method_46_code, exceptionTable := #[], attributes := #[] }
def k9m2 : Method := { name := "encodeUTF8", desc := "(B[BZ)[B", sig := { parameters := [.byte, (.array .byte), .boolean], returnType := some (.array .byte) }, accessFlags := 10, code := some k9c2 }
def k9c3 : Code := { maxStack := 1, maxLocals := 1, code := jdk_42_method_55_code, exceptionTable := #[], attributes := #[] }
def k9m3 : Method := { name := "isEmpty", desc := "()Z", sig := { parameters := [], returnType := some .boolean }, accessFlags := 1, code := some k9c3 }
def k9c4 : Code := { maxStack := 3, maxLocals := 2, code := jdk_42_method_64_code, exceptionTable := #[], attributes := #[] }
def k9m4 : Method := { name := "getBytes", desc := "(Ljava/nio/charset/Charset;)[B", sig := { parameters := [(.object "java/nio/charset/Charset")], returnType := some (.array .byte) }, accessFlags := 1, code := some k9c4 }
def k9c5 : Code := { maxStack := 4, maxLocals := 1, code := jdk_42_method_139_code, exceptionTable := #[], attributes := #[] }
def k9m5 : Method := { name := "valueOf", desc := "(C)Ljava/lang/String;", sig := { parameters := [.char], returnType := some (.object "java/lang/String") }, accessFlags := 9, code := some k9c5 }
def k9c6 : Code := { maxStack := 2, maxLocals := 3, code := jdk_42_method_151_code, exceptionTable := #[], attributes := #[] }
def k9m6 : Method := { name := "<init>", desc := "([BB)V", sig := { parameters := [(.array .byte), .byte], returnType := none }, accessFlags := 0, code := some k9c6 }
def k9c7 : Code := { maxStack := 1, maxLocals := 1, code := jdk_42_method_152_code, exceptionTable := #[], attributes := #[] }
def k9m7 : Method := { name := "coder", desc := "()B", sig := { parameters := [], returnType := some .byte }, accessFlags := 0, code := some k9c7 }
/-- java/lang/String -/
def k9 : Class := { plain "java/lang/String" (some 0) with
  accessFlags := 49
  interfaces := #[4, 5, 6, 7, 8]
  cf := some (fileOf pool9 10 #[.nestMembers #[1103]] #[{ accessFlags := 1, nameIndex := 5, descriptorIndex := 6, attributes := #[] }, { accessFlags := 10, nameIndex := 317, descriptorIndex := 537, attributes := #[] }, { accessFlags := 10, nameIndex := 254, descriptorIndex := 255, attributes := #[] }, { accessFlags := 1, nameIndex := 692, descriptorIndex := 142, attributes := #[] }, { accessFlags := 1, nameIndex := 532, descriptorIndex := 1245, attributes := #[] }, { accessFlags := 9, nameIndex := 782, descriptorIndex := 783, attributes := #[] }, { accessFlags := 0, nameIndex := 5, descriptorIndex := 211, attributes := #[] }, { accessFlags := 0, nameIndex := 17, descriptorIndex := 337, attributes := #[] }] 49 2 #[1106, 1108, 575, 1110, 1112] #[{ accessFlags := 18, nameIndex := 13, descriptorIndex := 14, attributes := #[] }, { accessFlags := 18, nameIndex := 17, descriptorIndex := 18, attributes := #[] }, { accessFlags := 2, nameIndex := 21, descriptorIndex := 22, attributes := #[] }, { accessFlags := 2, nameIndex := 25, descriptorIndex := 26, attributes := #[] }, { accessFlags := 26, nameIndex := 1116, descriptorIndex := 1117, attributes := #[] }, { accessFlags := 24, nameIndex := 40, descriptorIndex := 26, attributes := #[] }, { accessFlags := 26, nameIndex := 1101, descriptorIndex := 1102, attributes := #[] }, { accessFlags := 26, nameIndex := 1121, descriptorIndex := 1122, attributes := #[] }, { accessFlags := 25, nameIndex := 599, descriptorIndex := 600, attributes := #[] }, { accessFlags := 24, nameIndex := 1125, descriptorIndex := 18, attributes := #[] }, { accessFlags := 24, nameIndex := 1127, descriptorIndex := 18, attributes := #[] }])
  fields := #[{ name := "value", type := (.array .byte), accessFlags := 18, slot := 0, constantValue := 0 }, { name := "coder", type := .byte, accessFlags := 18, slot := 1, constantValue := 0 }, { name := "hash", type := .int, accessFlags := 2, slot := 2, constantValue := 0 }, { name := "hashIsZero", type := .boolean, accessFlags := 2, slot := 3, constantValue := 0 }, { name := "serialVersionUID", type := .long, accessFlags := 26, slot := 0, constantValue := 0 }, { name := "COMPACT_STRINGS", type := .boolean, accessFlags := 24, slot := 1, constantValue := 0 }, { name := "serialPersistentFields", type := (.array (.object "java/io/ObjectStreamField")), accessFlags := 26, slot := 2, constantValue := 0 }, { name := "REPL", type := .char, accessFlags := 26, slot := 3, constantValue := 0 }, { name := "CASE_INSENSITIVE_ORDER", type := (.object "java/util/Comparator"), accessFlags := 25, slot := 4, constantValue := 0 }, { name := "LATIN1", type := .byte, accessFlags := 24, slot := 5, constantValue := 0 }, { name := "UTF16", type := .byte, accessFlags := 24, slot := 6, constantValue := 0 }]
  methods := #[k9m0, k9m1, k9m2, k9m3, k9m4, k9m5, k9m6, k9m7]
  instanceTypes := #[(.array .byte), .byte, .int, .boolean]
  staticTypes := #[.long, .boolean, (.array (.object "java/io/ObjectStreamField")), .char, (.object "java/util/Comparator"), .byte, .byte]
  resolved := Array.replicate 1451 none
  statics := some 0 }

def pool10 : Array CpInfo := pool [(4, .class_ 6), (1, u "java/lang/Object"), (0, u "<init>"), (0, u "()V"), (5, .class_ 16), (1, u "java/lang/StringLatin1"), (73, u "canEncode"), (14, u "(C)Z"), (15, u "$assertionsDisabled"), (0, u "Z"), (98, .class_ 223), (1, u "java/lang/StringLatin1$LinesSpliterator"), (156, u "toBytes"), (1, u "(C)[B"), (7, .class_ 391), (0, u "java/lang/StringLatin1$CharsSpliterator")] 3

def k10m0 : Method := { name := "<init>", desc := "()V", sig := { parameters := [], returnType := none }, accessFlags := 0, code := none }
def k10c1 : Code := { maxStack := 2, maxLocals := 1, code := jdk_43_method_3_code, exceptionTable := #[], attributes := #[] }
def k10m1 : Method := { name := "canEncode", desc := "(C)Z", sig := { parameters := [.char], returnType := some .boolean }, accessFlags := 9, code := some k10c1 }
def k10c2 : Code := { maxStack := 4, maxLocals := 1, code := jdk_43_method_46_code, exceptionTable := #[], attributes := #[] }
def k10m2 : Method := { name := "toBytes", desc := "(C)[B", sig := { parameters := [.char], returnType := some (.array .byte) }, accessFlags := 9, code := some k10c2 }
/-- java/lang/StringLatin1 -/
def k10 : Class := { plain "java/lang/StringLatin1" (some 0) with
  accessFlags := 48
  interfaces := #[]
  cf := some (fileOf pool10 14 #[.nestMembers #[390, 221]] #[{ accessFlags := 0, nameIndex := 7, descriptorIndex := 8, attributes := #[] }, { accessFlags := 9, nameIndex := 90, descriptorIndex := 105, attributes := #[] }, { accessFlags := 9, nameIndex := 380, descriptorIndex := 382, attributes := #[] }] 48 4 #[] #[{ accessFlags := 4120, nameIndex := 121, descriptorIndex := 122, attributes := #[] }])
  fields := #[{ name := "$assertionsDisabled", type := .boolean, accessFlags := 4120, slot := 0, constantValue := 0 }]
  methods := #[k10m0, k10m1, k10m2]
  instanceTypes := #[]
  staticTypes := #[.boolean]
  resolved := Array.replicate 395 none
  statics := none }

def pool11 : Array CpInfo := pool [(2, .class_ 4), (1, u "java/lang/Object"), (0, u "<init>"), (0, u "()V"), (14, .class_ 23), (1, u "java/nio/charset/StandardCharsets"), (0, u "US_ASCII"), (0, u "Ljava/nio/charset/Charset;"), (7, u "ISO_8859_1"), (7, u "UTF_8"), (5, u "UTF_16BE"), (5, u "UTF_16LE"), (5, u "UTF_16")] 8

def k11m0 : Method := { name := "<init>", desc := "()V", sig := { parameters := [], returnType := none }, accessFlags := 2, code := none }
/-- java/nio/charset/StandardCharsets -/
def k11 : Class := { plain "java/nio/charset/StandardCharsets" (some 0) with
  accessFlags := 49
  interfaces := #[]
  cf := some (fileOf pool11 21 #[] #[{ accessFlags := 2, nameIndex := 5, descriptorIndex := 6, attributes := #[] }] 49 2 #[] #[{ accessFlags := 25, nameIndex := 24, descriptorIndex := 25, attributes := #[] }, { accessFlags := 25, nameIndex := 33, descriptorIndex := 25, attributes := #[] }, { accessFlags := 25, nameIndex := 41, descriptorIndex := 25, attributes := #[] }, { accessFlags := 25, nameIndex := 47, descriptorIndex := 25, attributes := #[] }, { accessFlags := 25, nameIndex := 53, descriptorIndex := 25, attributes := #[] }, { accessFlags := 25, nameIndex := 59, descriptorIndex := 25, attributes := #[] }])
  fields := #[{ name := "US_ASCII", type := (.object "java/nio/charset/Charset"), accessFlags := 25, slot := 0, constantValue := 0 }, { name := "ISO_8859_1", type := (.object "java/nio/charset/Charset"), accessFlags := 25, slot := 1, constantValue := 0 }, { name := "UTF_8", type := (.object "java/nio/charset/Charset"), accessFlags := 25, slot := 2, constantValue := 0 }, { name := "UTF_16BE", type := (.object "java/nio/charset/Charset"), accessFlags := 25, slot := 3, constantValue := 0 }, { name := "UTF_16LE", type := (.object "java/nio/charset/Charset"), accessFlags := 25, slot := 4, constantValue := 0 }, { name := "UTF_16", type := (.object "java/nio/charset/Charset"), accessFlags := 25, slot := 5, constantValue := 0 }]
  methods := #[k11m0]
  instanceTypes := #[]
  staticTypes := #[(.object "java/nio/charset/Charset"), (.object "java/nio/charset/Charset"), (.object "java/nio/charset/Charset"), (.object "java/nio/charset/Charset"), (.object "java/nio/charset/Charset"), (.object "java/nio/charset/Charset")]
  resolved := Array.replicate 68 none
  statics := some 1 }

def pool12 : Array CpInfo := pool [(18, .class_ 20), (1, u "java/nio/charset/Charset"), (0, u "cache1"), (0, u "[Ljava/lang/Object;"), (2, u "cache2"), (0, .class_ 27), (0, u "java/lang/Object"), (0, .class_ 29), (0, u "java/nio/charset/Charset$1"), (4, .class_ 36), (1, u "java/nio/charset/Charset$ThreadTrackHolder"), (21, .class_ 59), (0, u "java/nio/charset/Charset$2"), (11, .class_ 73), (1, u "java/nio/charset/Charset$ExtendedProviderHolder"), (22, u "standardProvider"), (0, u "Ljava/nio/charset/spi/CharsetProvider;"), (29, u "name"), (7, .class_ 136), (0, u "java/nio/charset/Charset$3"), (5, u "defaultCharset"), (0, u "Ljava/nio/charset/Charset;"), (14, u "zeroAliases"), (0, u "[Ljava/lang/String;"), (29, u "Ljava/lang/String;"), (2, u "aliases"), (2, u "aliasSet"), (0, u "Ljava/util/Set;"), (82, .class_ 280), (0, u "java/lang/Comparable"), (84, .class_ 366), (0, u "java/nio/charset/Charset$ExtendedProviderHolder$1")] 3

/-- java/nio/charset/Charset -/
def k12 : Class := { plain "java/nio/charset/Charset" (some 0) with
  accessFlags := 1057
  interfaces := #[5]
  cf := some (fileOf pool12 18 #[.nestMembers #[71, 365, 34, 135, 58, 28]] #[] 1057 26 #[279] #[{ accessFlags := 26, nameIndex := 96, descriptorIndex := 97, attributes := #[] }, { accessFlags := 26, nameIndex := 158, descriptorIndex := 159, attributes := #[] }, { accessFlags := 74, nameIndex := 21, descriptorIndex := 22, attributes := #[] }, { accessFlags := 74, nameIndex := 25, descriptorIndex := 22, attributes := #[] }, { accessFlags := 10, nameIndex := 142, descriptorIndex := 143, attributes := #[] }, { accessFlags := 18, nameIndex := 127, descriptorIndex := 189, attributes := #[] }, { accessFlags := 18, nameIndex := 192, descriptorIndex := 159, attributes := #[] }, { accessFlags := 2, nameIndex := 195, descriptorIndex := 196, attributes := #[] }])
  fields := #[{ name := "standardProvider", type := (.object "java/nio/charset/spi/CharsetProvider"), accessFlags := 26, slot := 0, constantValue := 0 }, { name := "zeroAliases", type := (.array (.object "java/lang/String")), accessFlags := 26, slot := 1, constantValue := 0 }, { name := "cache1", type := (.array (.object "java/lang/Object")), accessFlags := 74, slot := 2, constantValue := 0 }, { name := "cache2", type := (.array (.object "java/lang/Object")), accessFlags := 74, slot := 3, constantValue := 0 }, { name := "defaultCharset", type := (.object "java/nio/charset/Charset"), accessFlags := 10, slot := 4, constantValue := 0 }, { name := "name", type := (.object "java/lang/String"), accessFlags := 18, slot := 0, constantValue := 0 }, { name := "aliases", type := (.array (.object "java/lang/String")), accessFlags := 18, slot := 1, constantValue := 0 }, { name := "aliasSet", type := (.object "java/util/Set"), accessFlags := 2, slot := 2, constantValue := 0 }]
  methods := #[]
  instanceTypes := #[(.object "java/lang/String"), (.array (.object "java/lang/String")), (.object "java/util/Set")]
  staticTypes := #[(.object "java/nio/charset/spi/CharsetProvider"), (.array (.object "java/lang/String")), (.array (.object "java/lang/Object")), (.array (.object "java/lang/Object")), (.object "java/nio/charset/Charset")]
  resolved := Array.replicate 370 none
  statics := none }

def pool13 : Array CpInfo := pool [(1, .class_ 2), (0, u "sun/nio/cs/HistoricallyNamedCharset"), (0, .class_ 4), (0, u "java/lang/Object")] 4

/-- sun/nio/cs/HistoricallyNamedCharset -/
def k13 : Class := { plain "sun/nio/cs/HistoricallyNamedCharset" (some 0) with
  accessFlags := 1537
  interfaces := #[]
  cf := some (fileOf pool13 1 #[] #[] 1537 3 #[] #[])
  fields := #[]
  methods := #[]
  instanceTypes := #[]
  staticTypes := #[]
  resolved := Array.replicate 9 none
  statics := none }

def pool14 : Array CpInfo := pool [(2, .class_ 4), (1, u "java/nio/charset/Charset"), (130, .class_ 136), (0, u "sun/nio/cs/Unicode"), (0, .class_ 138), (0, u "sun/nio/cs/HistoricallyNamedCharset")] 15

/-- sun/nio/cs/Unicode -/
def k14 : Class := { plain "sun/nio/cs/Unicode" (some 12) with
  accessFlags := 1056
  interfaces := #[13]
  cf := some (fileOf pool14 135 #[] #[] 1056 2 #[137] #[])
  fields := #[]
  methods := #[]
  instanceTypes := #[(.object "java/lang/String"), (.array (.object "java/lang/String")), (.object "java/util/Set")]
  staticTypes := #[]
  resolved := Array.replicate 154 none
  statics := none }

def pool15 : Array CpInfo := pool [(10, .class_ 12), (1, u "sun/nio/cs/Unicode"), (0, u "<init>"), (3, .class_ 18), (0, u "sun/nio/cs/UTF_8$Decoder"), (3, .class_ 23), (0, u "sun/nio/cs/UTF_8$Encoder"), (15, .class_ 40), (0, u "sun/nio/cs/UTF_8"), (2, u "()V"), (2, u "INSTANCE"), (0, u "Lsun/nio/cs/UTF_8;"), (8, u "JLA"), (0, u "Ljdk/internal/access/JavaLangAccess;")] 26

def k15m0 : Method := { name := "<init>", desc := "()V", sig := { parameters := [], returnType := none }, accessFlags := 1, code := none }
/-- sun/nio/cs/UTF_8 -/
def k15 : Class := { plain "sun/nio/cs/UTF_8" (some 14) with
  accessFlags := 49
  interfaces := #[]
  cf := some (fileOf pool15 39 #[.nestMembers #[22, 17]] #[{ accessFlags := 1, nameIndex := 13, descriptorIndex := 43, attributes := #[] }] 49 10 #[] #[{ accessFlags := 25, nameIndex := 46, descriptorIndex := 47, attributes := #[] }, { accessFlags := 26, nameIndex := 56, descriptorIndex := 57, attributes := #[] }])
  fields := #[{ name := "INSTANCE", type := (.object "sun/nio/cs/UTF_8"), accessFlags := 25, slot := 0, constantValue := 0 }, { name := "JLA", type := (.object "jdk/internal/access/JavaLangAccess"), accessFlags := 26, slot := 1, constantValue := 0 }]
  methods := #[k15m0]
  instanceTypes := #[(.object "java/lang/String"), (.array (.object "java/lang/String")), (.object "java/util/Set")]
  staticTypes := #[(.object "sun/nio/cs/UTF_8"), (.object "jdk/internal/access/JavaLangAccess")]
  resolved := Array.replicate 84 none
  statics := some 2 }

def pool16 : Array CpInfo := pool [(2, .class_ 4), (1, u "java/lang/Object"), (0, u "<init>"), (0, u "()V"), (0, .methodref 8 9), (0, .class_ 10), (0, .nameAndType 11 12), (0, u "java/lang/StringCoding"), (0, u "countPositives"), (0, u "([BII)I"), (11, u "hasNegatives"), (0, u "([BII)Z")] 23

def k16m0 : Method := { name := "<init>", desc := "()V", sig := { parameters := [], returnType := none }, accessFlags := 2, code := none }
def k16c1 : Code := { maxStack := 3, maxLocals := 3, code := jdk_123_method_2_code, exceptionTable := #[], attributes := #[] }
def k16m1 : Method := { name := "hasNegatives", desc := "([BII)Z", sig := { parameters := [(.array .byte), .int, .int], returnType := some .boolean }, accessFlags := 9, code := some k16c1 }
def k16c2 : Code := { maxStack := 2, maxLocals := 5, code := jdk_123_method_3_code, exceptionTable := #[], attributes := #[] }
def k16m2 : Method := { name := "countPositives", desc := "([BII)I", sig := { parameters := [(.array .byte), .int, .int], returnType := some .int }, accessFlags := 9, code := some k16c2 }
/-- java/lang/StringCoding -/
def k16 : Class := { plain "java/lang/StringCoding" (some 0) with
  accessFlags := 32
  interfaces := #[]
  cf := some (fileOf pool16 8 #[] #[{ accessFlags := 2, nameIndex := 5, descriptorIndex := 6, attributes := #[] }, { accessFlags := 9, nameIndex := 24, descriptorIndex := 25, attributes := #[] }, { accessFlags := 9, nameIndex := 11, descriptorIndex := 12, attributes := #[] }] 32 2 #[] #[])
  fields := #[]
  methods := #[k16m0, k16m1, k16m2]
  instanceTypes := #[]
  staticTypes := #[]
  resolved := Array.replicate 49 none
  statics := none }

def pool17 : Array CpInfo := pool [(1, .class_ 2), (0, u "java/lang/Cloneable"), (0, .class_ 4), (0, u "java/lang/Object")] 2

/-- java/lang/Cloneable -/
def k17 : Class := { plain "java/lang/Cloneable" (some 0) with
  accessFlags := 1537
  interfaces := #[]
  cf := some (fileOf pool17 1 #[] #[] 1537 3 #[] #[])
  fields := #[]
  methods := #[]
  instanceTypes := #[]
  staticTypes := #[]
  resolved := Array.replicate 7 none
  statics := none }

def pool18 : Array CpInfo := pool [(6, .class_ 8), (1, u "java/lang/Object"), (0, u "<init>"), (0, u "()V"), (0, .methodref 12 13), (0, .class_ 14), (0, .nameAndType 15 16), (0, u "java/lang/StringUTF16"), (0, u "newBytesLength"), (0, u "(I)I"), (3, .integer 1073741823), (25, u "$assertionsDisabled"), (0, u "Z"), (13, u "HI_BYTE_SHIFT"), (0, u "I"), (2, u "LO_BYTE_SHIFT"), (43, u "newBytesFor"), (0, u "(I)[B"), (258, .class_ 371), (1, u "java/lang/StringUTF16$LinesSpliterator"), (58, u "MAX_LENGTH"), (196, .class_ 628), (0, u "java/lang/StringUTF16$CodePointsSpliterator"), (0, .class_ 630), (0, u "java/lang/StringUTF16$CharsSpliterator")] 4

def k18m0 : Method := { name := "<init>", desc := "()V", sig := { parameters := [], returnType := none }, accessFlags := 0, code := none }
def k18c1 : Code := { maxStack := 1, maxLocals := 1, code := jdk_52_method_2_code, exceptionTable := #[], attributes := #[] }
def k18m1 : Method := { name := "newBytesFor", desc := "(I)[B", sig := { parameters := [.int], returnType := some (.array .byte) }, accessFlags := 9, code := some k18c1 }
def k18c2 : Code := { maxStack := 4, maxLocals := 1, code := jdk_52_method_3_code, exceptionTable := #[], attributes := #[] }
def k18m2 : Method := { name := "newBytesLength", desc := "(I)I", sig := { parameters := [.int], returnType := some .int }, accessFlags := 9, code := some k18c2 }
/-- java/lang/StringUTF16 -/
def k18 : Class := { plain "java/lang/StringUTF16" (some 0) with
  accessFlags := 48
  interfaces := #[]
  cf := some (fileOf pool18 12 #[.nestMembers #[627, 629, 369]] #[{ accessFlags := 0, nameIndex := 9, descriptorIndex := 10, attributes := #[] }, { accessFlags := 9, nameIndex := 109, descriptorIndex := 110, attributes := #[] }, { accessFlags := 9, nameIndex := 15, descriptorIndex := 16, attributes := #[] }] 48 6 #[] #[{ accessFlags := 26, nameIndex := 61, descriptorIndex := 62, attributes := #[] }, { accessFlags := 26, nameIndex := 65, descriptorIndex := 62, attributes := #[] }, { accessFlags := 24, nameIndex := 430, descriptorIndex := 62, attributes := #[] }, { accessFlags := 4120, nameIndex := 46, descriptorIndex := 47, attributes := #[] }])
  fields := #[{ name := "HI_BYTE_SHIFT", type := .int, accessFlags := 26, slot := 0, constantValue := 0 }, { name := "LO_BYTE_SHIFT", type := .int, accessFlags := 26, slot := 1, constantValue := 0 }, { name := "MAX_LENGTH", type := .int, accessFlags := 24, slot := 2, constantValue := 0 }, { name := "$assertionsDisabled", type := .boolean, accessFlags := 4120, slot := 3, constantValue := 0 }]
  methods := #[k18m0, k18m1, k18m2]
  instanceTypes := #[]
  staticTypes := #[.int, .int, .int, .boolean]
  resolved := Array.replicate 635 none
  statics := none }

def pool19 : Array CpInfo := pool [(2, .class_ 4), (1, u "java/lang/Object"), (0, u "<init>"), (0, u "()V"), (17, .class_ 26), (1, u "jdk/internal/util/Preconditions"), (28, .class_ 56), (0, u "jdk/internal/util/Preconditions$4"), (57, .class_ 115), (0, u "jdk/internal/util/Preconditions$1"), (7, u "SIOOBE_FORMATTER"), (0, u "Ljava/util/function/BiFunction;"), (0, .class_ 126), (0, u "jdk/internal/util/Preconditions$2"), (3, u "AIOOBE_FORMATTER"), (0, .class_ 132), (0, u "jdk/internal/util/Preconditions$3"), (3, u "IOOBE_FORMATTER")] 57

def k19m0 : Method := { name := "<init>", desc := "()V", sig := { parameters := [], returnType := none }, accessFlags := 1, code := none }
/-- jdk/internal/util/Preconditions -/
def k19 : Class := { plain "jdk/internal/util/Preconditions" (some 0) with
  accessFlags := 33
  interfaces := #[]
  cf := some (fileOf pool19 24 #[.nestMembers #[55, 131, 125, 114]] #[{ accessFlags := 1, nameIndex := 5, descriptorIndex := 6, attributes := #[] }] 33 2 #[] #[{ accessFlags := 25, nameIndex := 123, descriptorIndex := 124, attributes := #[] }, { accessFlags := 25, nameIndex := 130, descriptorIndex := 124, attributes := #[] }, { accessFlags := 25, nameIndex := 136, descriptorIndex := 124, attributes := #[] }])
  fields := #[{ name := "SIOOBE_FORMATTER", type := (.object "java/util/function/BiFunction"), accessFlags := 25, slot := 0, constantValue := 0 }, { name := "AIOOBE_FORMATTER", type := (.object "java/util/function/BiFunction"), accessFlags := 25, slot := 1, constantValue := 0 }, { name := "IOOBE_FORMATTER", type := (.object "java/util/function/BiFunction"), accessFlags := 25, slot := 2, constantValue := 0 }]
  methods := #[k19m0]
  instanceTypes := #[]
  staticTypes := #[(.object "java/util/function/BiFunction"), (.object "java/util/function/BiFunction"), (.object "java/util/function/BiFunction")]
  resolved := Array.replicate 194 none
  statics := some 3 }

def pool20 : Array CpInfo := pool [(9, u "<init>"), (6, .class_ 18), (1, u "java/lang/Object"), (0, u "()V"), (1, .class_ 23), (1, u "jdk/internal/util/ArraysSupport"), (0, u "LOG2_ARRAY_LONG_INDEX_SCALE"), (0, u "I"), (2, u "U"), (0, u "Ljdk/internal/misc/Unsafe;"), (8, u "BIG_ENDIAN"), (0, u "Z"), (8, u "LOG2_BYTE_BIT_SIZE"), (4, u "LOG2_ARRAY_INT_INDEX_SCALE"), (54, u "JLA"), (0, u "Ljdk/internal/access/JavaLangAccess;"), (11, u "LOG2_ARRAY_BOOLEAN_INDEX_SCALE"), (9, u "LOG2_ARRAY_BYTE_INDEX_SCALE"), (5, u "LOG2_ARRAY_CHAR_INDEX_SCALE"), (5, u "LOG2_ARRAY_SHORT_INDEX_SCALE"), (18, u "LOG2_ARRAY_FLOAT_INDEX_SCALE"), (24, u "LOG2_ARRAY_DOUBLE_INDEX_SCALE"), (89, u "T_BOOLEAN"), (2, u "T_CHAR"), (1, u "T_FLOAT"), (1, u "T_DOUBLE"), (1, u "T_BYTE"), (1, u "T_SHORT"), (1, u "T_INT"), (1, u "T_LONG"), (1, u "SOFT_MAX_ARRAY_LENGTH")] 83

def k20m0 : Method := { name := "<init>", desc := "()V", sig := { parameters := [], returnType := none }, accessFlags := 2, code := none }
/-- jdk/internal/util/ArraysSupport -/
def k20 : Class := { plain "jdk/internal/util/ArraysSupport" (some 0) with
  accessFlags := 33
  interfaces := #[]
  cf := some (fileOf pool20 21 #[] #[{ accessFlags := 2, nameIndex := 9, descriptorIndex := 19, attributes := #[] }] 33 16 #[] #[{ accessFlags := 24, nameIndex := 28, descriptorIndex := 29, attributes := #[] }, { accessFlags := 26, nameIndex := 38, descriptorIndex := 39, attributes := #[] }, { accessFlags := 25, nameIndex := 121, descriptorIndex := 25, attributes := #[] }, { accessFlags := 25, nameIndex := 131, descriptorIndex := 25, attributes := #[] }, { accessFlags := 25, nameIndex := 137, descriptorIndex := 25, attributes := #[] }, { accessFlags := 25, nameIndex := 143, descriptorIndex := 25, attributes := #[] }, { accessFlags := 25, nameIndex := 53, descriptorIndex := 25, attributes := #[] }, { accessFlags := 25, nameIndex := 24, descriptorIndex := 25, attributes := #[] }, { accessFlags := 25, nameIndex := 162, descriptorIndex := 25, attributes := #[] }, { accessFlags := 25, nameIndex := 187, descriptorIndex := 25, attributes := #[] }, { accessFlags := 26, nameIndex := 48, descriptorIndex := 25, attributes := #[] }, { accessFlags := 25, nameIndex := 277, descriptorIndex := 25, attributes := #[] }, { accessFlags := 25, nameIndex := 280, descriptorIndex := 25, attributes := #[] }, { accessFlags := 25, nameIndex := 282, descriptorIndex := 25, attributes := #[] }, { accessFlags := 25, nameIndex := 284, descriptorIndex := 25, attributes := #[] }, { accessFlags := 25, nameIndex := 286, descriptorIndex := 25, attributes := #[] }, { accessFlags := 25, nameIndex := 288, descriptorIndex := 25, attributes := #[] }, { accessFlags := 25, nameIndex := 290, descriptorIndex := 25, attributes := #[] }, { accessFlags := 25, nameIndex := 292, descriptorIndex := 25, attributes := #[] }, { accessFlags := 26, nameIndex := 108, descriptorIndex := 109, attributes := #[] }, { accessFlags := 25, nameIndex := 294, descriptorIndex := 25, attributes := #[] }])
  fields := #[{ name := "U", type := (.object "jdk/internal/misc/Unsafe"), accessFlags := 24, slot := 0, constantValue := 0 }, { name := "BIG_ENDIAN", type := .boolean, accessFlags := 26, slot := 1, constantValue := 0 }, { name := "LOG2_ARRAY_BOOLEAN_INDEX_SCALE", type := .int, accessFlags := 25, slot := 2, constantValue := 0 }, { name := "LOG2_ARRAY_BYTE_INDEX_SCALE", type := .int, accessFlags := 25, slot := 3, constantValue := 0 }, { name := "LOG2_ARRAY_CHAR_INDEX_SCALE", type := .int, accessFlags := 25, slot := 4, constantValue := 0 }, { name := "LOG2_ARRAY_SHORT_INDEX_SCALE", type := .int, accessFlags := 25, slot := 5, constantValue := 0 }, { name := "LOG2_ARRAY_INT_INDEX_SCALE", type := .int, accessFlags := 25, slot := 6, constantValue := 0 }, { name := "LOG2_ARRAY_LONG_INDEX_SCALE", type := .int, accessFlags := 25, slot := 7, constantValue := 0 }, { name := "LOG2_ARRAY_FLOAT_INDEX_SCALE", type := .int, accessFlags := 25, slot := 8, constantValue := 0 }, { name := "LOG2_ARRAY_DOUBLE_INDEX_SCALE", type := .int, accessFlags := 25, slot := 9, constantValue := 0 }, { name := "LOG2_BYTE_BIT_SIZE", type := .int, accessFlags := 26, slot := 10, constantValue := 0 }, { name := "T_BOOLEAN", type := .int, accessFlags := 25, slot := 11, constantValue := 0 }, { name := "T_CHAR", type := .int, accessFlags := 25, slot := 12, constantValue := 0 }, { name := "T_FLOAT", type := .int, accessFlags := 25, slot := 13, constantValue := 0 }, { name := "T_DOUBLE", type := .int, accessFlags := 25, slot := 14, constantValue := 0 }, { name := "T_BYTE", type := .int, accessFlags := 25, slot := 15, constantValue := 0 }, { name := "T_SHORT", type := .int, accessFlags := 25, slot := 16, constantValue := 0 }, { name := "T_INT", type := .int, accessFlags := 25, slot := 17, constantValue := 0 }, { name := "T_LONG", type := .int, accessFlags := 25, slot := 18, constantValue := 0 }, { name := "JLA", type := (.object "jdk/internal/access/JavaLangAccess"), accessFlags := 26, slot := 19, constantValue := 0 }, { name := "SOFT_MAX_ARRAY_LENGTH", type := .int, accessFlags := 25, slot := 20, constantValue := 0 }]
  methods := #[k20m0]
  instanceTypes := #[]
  staticTypes := #[(.object "jdk/internal/misc/Unsafe"), .boolean, .int, .int, .int, .int, .int, .int, .int, .int, .int, .int, .int, .int, .int, .int, .int, .int, .int, (.object "jdk/internal/access/JavaLangAccess"), .int]
  resolved := Array.replicate 378 none
  statics := none }

/-- the primitive byte -/
def k21 : Class := { plain "byte" none with kind := .primitive 'B', accessFlags := 0x411 }
/-- [B -/
def k22 : Class := { plain "[B" (some 0) with kind := .array 21 .byte, interfaces := #[17, 4], accessFlags := 1041 }

/-- the primitive int -/
def k23 : Class := { plain "int" none with kind := .primitive 'I', accessFlags := 0x411 }
/-- [I -/
def k24 : Class := { plain "[I" (some 0) with kind := .array 23 .int, interfaces := #[17, 4], accessFlags := 1041 }

def heap : Heap := #[{ cls := 9, slots := #[.long 0, .int 1, .null, .int 0, .null, .int 0, .int 0], vm := .statics 9 },
  { cls := 11, slots := #[.null, .null, .ref 4, .null, .null, .null], vm := .statics 11 },
  { cls := 15, slots := #[.ref 4, .null], vm := .statics 15 },
  { cls := 19, slots := #[.null, .null, .null], vm := .statics 19 },
  { cls := 15, slots := #[.null, .null, .null], vm := .none }]
def classes : Array Class := #[k0, k1, k2, k3, k4, k5, k6, k7, k8, k9, k10, k11, k12, k13, k14, k15, k16, k17, k18, k19, k20, k21, k22, k23, k24]
def interned : List (Array UInt16 × Addr) := []
def slotsUsed : Nat := 21
def theMethod : MethodId := ⟨1, 1⟩
def args0 : Array Value := #[.int 65, .int 6, .int 7]
def aboutOver (below : List Frame) : State where
  vm := { classes := classes, interned := interned.toArray }
  heap := heap
  slotsUsed := slotsUsed
  threads := #[{ frames := .invoking theMethod args0 :: below }]
def below0 : List Frame := [.native { method := ⟨0, 0⟩, args := #[] }]
def about1 : State := aboutOver below0
def p0 : Program := .bare "" "" ""
def e0 : Env := launch0.env 0 0 0
theorem w_frames : about1.frames = Frame.invoking theMethod args0 :: below0 := rfl
set_option maxRecDepth 65536 in
theorem w_args : argsFit about1.vm theMethod args0 = true := by decide +kernel
set_option maxRecDepth 65536 in
theorem w_heap : heapFits about1 = true := by decide +kernel
set_option maxRecDepth 65536 in
theorem w_runnable : about1.curStatus? = some .runnable := by decide +kernel
set_option maxRecDepth 65536 in
theorem w_alone : about1.alone = true := by decide +kernel
set_option maxRecDepth 65536 in
theorem w_named : about1.methodNamed? x = some theMethod := by decide +kernel
set_option maxRecDepth 65536 in
theorem w_hears : about1.hears theMethod below0 = true := by decide +kernel
set_option maxRecDepth 65536 in
theorem w_ripe : about1.ripe theMethod args0 below0 = true := by decide +kernel
theorem w_running : about1.status = .running := rfl
set_option maxRecDepth 65536 in
theorem w_room : about1.hasRoom e0.platform room_1 = true :=
  launch0.hasRoom_least _ room_1 (by decide +kernel) (by decide +kernel) (by decide +kernel) (by decide +kernel) (by decide +kernel) (by decide +kernel)
theorem allAtoms_all (ts : List Jvm.Cond) (a : Array Jvm.Value) (st : Jvm.State) : (allAtoms ts).before a st = ts.all (fun c => c.before a st) := by
  induction ts with
  | nil => rfl
  | cons c t ih =>
    show (Jvm.Cond.and c (allAtoms t)).before a st = _
    rw [Jvm.Cond.before_and, ih, List.all_cons]
def words1 : List Jvm.Cond := Jvm.Cond.code x code maxLocals ret :: tables_1
/-- a 'code' word, met by the world's own term for the bytes: nothing is compared byte by byte -/
theorem code_word {y : MethodName} {bytes : ByteArray} {mx : Nat} {rt : Option FieldType} {a : Array Value} {s : State} {m : MethodId} {meth : Method} {c : Code} (h1 : s.methodNamed? y = some m) (h2 : s.vm.method? m = some meth) (h3 : meth.code = some c) (h4 : c.code = bytes)
    (h5 : (c.maxLocals == mx && c.exceptionTable.isEmpty && decide (c.maxStack ≤ mostOperands) && decide (meth.sig.returnType = rt) && !meth.locks && decide (parseMethodDescriptor y.desc = some meth.sig)) = true) : (Jvm.Cond.code y bytes mx rt).before a s = true := by
  simp only [Bool.and_eq_true, beq_iff_eq, Bool.not_eq_true', decide_eq_true_eq] at h5
  obtain ⟨⟨⟨⟨⟨g1, g2⟩, g3⟩, g4⟩, g5⟩, g6⟩ := h5
  simp [Cond.before, Cond.holds, Cond.value, h1, h2, h3, h4, g1, g2, g3, g4, g5, g6]
def isCode : Jvm.Cond → Bool
  | .code _ _ _ _ => true
  | _ => false
theorem all_split {L : List Jvm.Cond} {P : Jvm.Cond → Bool} (h1 : L.all (fun c => isCode c || P c) = true) (h2 : ∀ c ∈ L.filter isCode, P c = true) : L.all P = true := by
  refine List.all_eq_true.mpr fun c hc => ?_
  have h := List.all_eq_true.mp h1 c hc
  rcases Bool.eq_false_or_eq_true (isCode c) with hi | hi
  · exact h2 c (List.mem_filter.mpr ⟨hc, hi⟩)
  · simpa [hi] using h
set_option maxRecDepth 65536 in
theorem w_c0 : (Jvm.Cond.code x code maxLocals ret).before args0 about1 = true := code_word (m := ⟨1, 1⟩) (meth := k1m1) (c := k1c1) (by decide +kernel) rfl rfl rfl (by decide +kernel)
set_option maxRecDepth 65536 in
theorem w_c1 : (Jvm.Cond.code ({ cls := "java/lang/String", name := "valueOf", desc := "(C)Ljava/lang/String;" } : Jvm.MethodName) jdk_42_method_139_code (1 : Nat) (Option.some (Jvm.ClassFile.FieldType.object "java/lang/String"))).before args0 about1 = true := code_word (m := ⟨9, 5⟩) (meth := k9m5) (c := k9c5) (by decide +kernel) rfl rfl rfl (by decide +kernel)
set_option maxRecDepth 65536 in
theorem w_c2 : (Jvm.Cond.code ({ cls := "java/lang/StringLatin1", name := "canEncode", desc := "(C)Z" } : Jvm.MethodName) jdk_43_method_3_code (1 : Nat) (Option.some Jvm.ClassFile.FieldType.boolean)).before args0 about1 = true := code_word (m := ⟨10, 1⟩) (meth := k10m1) (c := k10c1) (by decide +kernel) rfl rfl rfl (by decide +kernel)
set_option maxRecDepth 65536 in
theorem w_c3 : (Jvm.Cond.code ({ cls := "java/lang/StringLatin1", name := "toBytes", desc := "(C)[B" } : Jvm.MethodName) jdk_43_method_46_code (1 : Nat) (Option.some (Jvm.ClassFile.FieldType.array Jvm.ClassFile.FieldType.byte))).before args0 about1 = true := code_word (m := ⟨10, 2⟩) (meth := k10m2) (c := k10c2) (by decide +kernel) rfl rfl rfl (by decide +kernel)
set_option maxRecDepth 65536 in
theorem w_c4 : (Jvm.Cond.code ({ cls := "java/lang/String", name := "<init>", desc := "([BB)V" } : Jvm.MethodName) jdk_42_method_151_code (3 : Nat) (Option.none : Option Jvm.ClassFile.FieldType)).before args0 about1 = true := code_word (m := ⟨9, 6⟩) (meth := k9m6) (c := k9c6) (by decide +kernel) rfl rfl rfl (by decide +kernel)
set_option maxRecDepth 65536 in
theorem w_c5 : (Jvm.Cond.code ({ cls := "java/lang/Object", name := "<init>", desc := "()V" } : Jvm.MethodName) object_method_1_code (1 : Nat) (Option.none : Option Jvm.ClassFile.FieldType)).before args0 about1 = true := code_word (m := ⟨0, 0⟩) (meth := k0m0) (c := k0c0) (by decide +kernel) rfl rfl rfl (by decide +kernel)
set_option maxRecDepth 65536 in
theorem w_c6 : (Jvm.Cond.code ({ cls := "com/example/indri/indri/calls/Topic", name := "<init>", desc := "(Ljava/lang/String;I)V" } : Jvm.MethodName) prog_20_method_1_code (3 : Nat) (Option.none : Option Jvm.ClassFile.FieldType)).before args0 about1 = true := code_word (m := ⟨3, 0⟩) (meth := k3m0) (c := k3c0) (by decide +kernel) rfl rfl rfl (by decide +kernel)
set_option maxRecDepth 65536 in
theorem w_c7 : (Jvm.Cond.code ({ cls := "java/lang/Record", name := "<init>", desc := "()V" } : Jvm.MethodName) jdk_30_method_1_code (1 : Nat) (Option.none : Option Jvm.ClassFile.FieldType)).before args0 about1 = true := code_word (m := ⟨2, 0⟩) (meth := k2m0) (c := k2c0) (by decide +kernel) rfl rfl rfl (by decide +kernel)
set_option maxRecDepth 65536 in
theorem w_c8 : (Jvm.Cond.code ({ cls := "java/lang/String", name := "isEmpty", desc := "()Z" } : Jvm.MethodName) jdk_42_method_55_code (1 : Nat) (Option.some Jvm.ClassFile.FieldType.boolean)).before args0 about1 = true := code_word (m := ⟨9, 3⟩) (meth := k9m3) (c := k9c3) (by decide +kernel) rfl rfl rfl (by decide +kernel)
set_option maxRecDepth 65536 in
theorem w_c9 : (Jvm.Cond.code ({ cls := "java/lang/String", name := "getBytes", desc := "(Ljava/nio/charset/Charset;)[B" } : Jvm.MethodName) jdk_42_method_64_code (2 : Nat) (Option.some (Jvm.ClassFile.FieldType.array Jvm.ClassFile.FieldType.byte))).before args0 about1 = true := code_word (m := ⟨9, 4⟩) (meth := k9m4) (c := k9c4) (by decide +kernel) rfl rfl rfl (by decide +kernel)
set_option maxRecDepth 65536 in
theorem w_c10 : (Jvm.Cond.code ({ cls := "java/lang/String", name := "coder", desc := "()B" } : Jvm.MethodName) jdk_42_method_152_code (1 : Nat) (Option.some Jvm.ClassFile.FieldType.byte)).before args0 about1 = true := code_word (m := ⟨9, 7⟩) (meth := k9m7) (c := k9c7) (by decide +kernel) rfl rfl rfl (by decide +kernel)
set_option maxRecDepth 65536 in
theorem w_c11 : (Jvm.Cond.code ({ cls := "java/lang/String", name := "encode", desc := "(Ljava/nio/charset/Charset;B[B)[B" } : Jvm.MethodName) jdk_42_method_18_code (3 : Nat) (Option.some (Jvm.ClassFile.FieldType.array Jvm.ClassFile.FieldType.byte))).before args0 about1 = true := code_word (m := ⟨9, 1⟩) (meth := k9m1) (c := k9c1) (by decide +kernel) rfl rfl rfl (by decide +kernel)
set_option maxRecDepth 65536 in
theorem w_c12 : (Jvm.Cond.code ({ cls := "java/lang/String", name := "encodeUTF8", desc := "(B[BZ)[B" } : Jvm.MethodName) jdk_42_method_46_code (9 : Nat) (Option.some (Jvm.ClassFile.FieldType.array Jvm.ClassFile.FieldType.byte))).before args0 about1 = true := code_word (m := ⟨9, 2⟩) (meth := k9m2) (c := k9c2) (by decide +kernel) rfl rfl rfl (by decide +kernel)
set_option maxRecDepth 65536 in
theorem w_c13 : (Jvm.Cond.code ({ cls := "java/lang/StringCoding", name := "hasNegatives", desc := "([BII)Z" } : Jvm.MethodName) jdk_123_method_2_code (3 : Nat) (Option.some Jvm.ClassFile.FieldType.boolean)).before args0 about1 = true := code_word (m := ⟨16, 1⟩) (meth := k16m1) (c := k16c1) (by decide +kernel) rfl rfl rfl (by decide +kernel)
set_option maxRecDepth 65536 in
theorem w_c14 : (Jvm.Cond.code ({ cls := "java/lang/StringCoding", name := "countPositives", desc := "([BII)I" } : Jvm.MethodName) jdk_123_method_3_code (5 : Nat) (Option.some Jvm.ClassFile.FieldType.int)).before args0 about1 = true := code_word (m := ⟨16, 2⟩) (meth := k16m2) (c := k16c2) (by decide +kernel) rfl rfl rfl (by decide +kernel)
set_option maxRecDepth 65536 in
theorem w_c15 : (Jvm.Cond.code ({ cls := "com/example/indri/indri/calls/Topic", name := "hasPartition", desc := "(I)Z" } : Jvm.MethodName) prog_20_method_2_code (2 : Nat) (Option.some Jvm.ClassFile.FieldType.boolean)).before args0 about1 = true := code_word (m := ⟨3, 1⟩) (meth := k3m1) (c := k3c1) (by decide +kernel) rfl rfl rfl (by decide +kernel)
set_option maxRecDepth 65536 in
theorem w_c16 : (Jvm.Cond.code ({ cls := "java/lang/StringUTF16", name := "newBytesFor", desc := "(I)[B" } : Jvm.MethodName) jdk_52_method_2_code (1 : Nat) (Option.some (Jvm.ClassFile.FieldType.array Jvm.ClassFile.FieldType.byte))).before args0 about1 = true := code_word (m := ⟨18, 1⟩) (meth := k18m1) (c := k18c1) (by decide +kernel) rfl rfl rfl (by decide +kernel)
set_option maxRecDepth 65536 in
theorem w_c17 : (Jvm.Cond.code ({ cls := "java/lang/StringUTF16", name := "newBytesLength", desc := "(I)I" } : Jvm.MethodName) jdk_52_method_3_code (1 : Nat) (Option.some Jvm.ClassFile.FieldType.int)).before args0 about1 = true := code_word (m := ⟨18, 2⟩) (meth := k18m2) (c := k18c2) (by decide +kernel) rfl rfl rfl (by decide +kernel)
def codes1 : List Jvm.Cond := [Jvm.Cond.code x code maxLocals ret, Jvm.Cond.code ({ cls := "java/lang/String", name := "valueOf", desc := "(C)Ljava/lang/String;" } : Jvm.MethodName) jdk_42_method_139_code (1 : Nat) (Option.some (Jvm.ClassFile.FieldType.object "java/lang/String")), Jvm.Cond.code ({ cls := "java/lang/StringLatin1", name := "canEncode", desc := "(C)Z" } : Jvm.MethodName) jdk_43_method_3_code (1 : Nat) (Option.some Jvm.ClassFile.FieldType.boolean), Jvm.Cond.code ({ cls := "java/lang/StringLatin1", name := "toBytes", desc := "(C)[B" } : Jvm.MethodName) jdk_43_method_46_code (1 : Nat) (Option.some (Jvm.ClassFile.FieldType.array Jvm.ClassFile.FieldType.byte)), Jvm.Cond.code ({ cls := "java/lang/String", name := "<init>", desc := "([BB)V" } : Jvm.MethodName) jdk_42_method_151_code (3 : Nat) (Option.none : Option Jvm.ClassFile.FieldType), Jvm.Cond.code ({ cls := "java/lang/Object", name := "<init>", desc := "()V" } : Jvm.MethodName) object_method_1_code (1 : Nat) (Option.none : Option Jvm.ClassFile.FieldType), Jvm.Cond.code ({ cls := "com/example/indri/indri/calls/Topic", name := "<init>", desc := "(Ljava/lang/String;I)V" } : Jvm.MethodName) prog_20_method_1_code (3 : Nat) (Option.none : Option Jvm.ClassFile.FieldType), Jvm.Cond.code ({ cls := "java/lang/Record", name := "<init>", desc := "()V" } : Jvm.MethodName) jdk_30_method_1_code (1 : Nat) (Option.none : Option Jvm.ClassFile.FieldType), Jvm.Cond.code ({ cls := "java/lang/String", name := "isEmpty", desc := "()Z" } : Jvm.MethodName) jdk_42_method_55_code (1 : Nat) (Option.some Jvm.ClassFile.FieldType.boolean), Jvm.Cond.code ({ cls := "java/lang/String", name := "getBytes", desc := "(Ljava/nio/charset/Charset;)[B" } : Jvm.MethodName) jdk_42_method_64_code (2 : Nat) (Option.some (Jvm.ClassFile.FieldType.array Jvm.ClassFile.FieldType.byte)), Jvm.Cond.code ({ cls := "java/lang/String", name := "coder", desc := "()B" } : Jvm.MethodName) jdk_42_method_152_code (1 : Nat) (Option.some Jvm.ClassFile.FieldType.byte), Jvm.Cond.code ({ cls := "java/lang/String", name := "encode", desc := "(Ljava/nio/charset/Charset;B[B)[B" } : Jvm.MethodName) jdk_42_method_18_code (3 : Nat) (Option.some (Jvm.ClassFile.FieldType.array Jvm.ClassFile.FieldType.byte)), Jvm.Cond.code ({ cls := "java/lang/String", name := "encodeUTF8", desc := "(B[BZ)[B" } : Jvm.MethodName) jdk_42_method_46_code (9 : Nat) (Option.some (Jvm.ClassFile.FieldType.array Jvm.ClassFile.FieldType.byte)), Jvm.Cond.code ({ cls := "java/lang/StringCoding", name := "hasNegatives", desc := "([BII)Z" } : Jvm.MethodName) jdk_123_method_2_code (3 : Nat) (Option.some Jvm.ClassFile.FieldType.boolean), Jvm.Cond.code ({ cls := "java/lang/StringCoding", name := "countPositives", desc := "([BII)I" } : Jvm.MethodName) jdk_123_method_3_code (5 : Nat) (Option.some Jvm.ClassFile.FieldType.int), Jvm.Cond.code ({ cls := "com/example/indri/indri/calls/Topic", name := "hasPartition", desc := "(I)Z" } : Jvm.MethodName) prog_20_method_2_code (2 : Nat) (Option.some Jvm.ClassFile.FieldType.boolean), Jvm.Cond.code ({ cls := "java/lang/StringUTF16", name := "newBytesFor", desc := "(I)[B" } : Jvm.MethodName) jdk_52_method_2_code (1 : Nat) (Option.some (Jvm.ClassFile.FieldType.array Jvm.ClassFile.FieldType.byte)), Jvm.Cond.code ({ cls := "java/lang/StringUTF16", name := "newBytesLength", desc := "(I)I" } : Jvm.MethodName) jdk_52_method_3_code (1 : Nat) (Option.some Jvm.ClassFile.FieldType.int)]
set_option maxRecDepth 65536 in
theorem codes_eq : words1.filter isCode = codes1 := rfl
theorem w_codes : ∀ c ∈ words1.filter isCode, c.before args0 about1 = true := by
  rw [codes_eq]
  intro c hc
  simp only [codes1, List.mem_cons, List.not_mem_nil, or_false] at hc
  rcases hc with rfl | rfl | rfl | rfl | rfl | rfl | rfl | rfl | rfl | rfl | rfl | rfl | rfl | rfl | rfl | rfl | rfl | rfl
  · exact w_c0
  · exact w_c1
  · exact w_c2
  · exact w_c3
  · exact w_c4
  · exact w_c5
  · exact w_c6
  · exact w_c7
  · exact w_c8
  · exact w_c9
  · exact w_c10
  · exact w_c11
  · exact w_c12
  · exact w_c13
  · exact w_c14
  · exact w_c15
  · exact w_c16
  · exact w_c17
set_option maxRecDepth 65536 in
theorem w_t1 : (words1.take 24).all (fun c => isCode c || c.before args0 about1) = true := by decide +kernel
set_option maxRecDepth 65536 in
theorem w_t2 : ((words1.drop 24).take 24).all (fun c => isCode c || c.before args0 about1) = true := by decide +kernel
set_option maxRecDepth 65536 in
theorem w_t3 : (((words1.drop 24).drop 24).take 24).all (fun c => isCode c || c.before args0 about1) = true := by decide +kernel
set_option maxRecDepth 65536 in
theorem w_t4 : ((((words1.drop 24).drop 24).drop 24).take 24).all (fun c => isCode c || c.before args0 about1) = true := by decide +kernel
set_option maxRecDepth 65536 in
theorem w_t5 : ((((words1.drop 24).drop 24).drop 24).drop 24).all (fun c => isCode c || c.before args0 about1) = true := by decide +kernel
theorem w_tables : (allAtoms (Jvm.Cond.code x code maxLocals ret :: tables_1)).before args0 about1 = true := by
  rw [allAtoms_all]
  show words1.all (fun c => c.before args0 about1) = true
  refine all_split ?_ w_codes
  rw [← List.take_append_drop 24 words1, List.all_append, w_t1, ← List.take_append_drop 24 (words1.drop 24), List.all_append, w_t2, ← List.take_append_drop 24 ((words1.drop 24).drop 24), List.all_append, w_t3, ← List.take_append_drop 24 (((words1.drop 24).drop 24).drop 24), List.all_append, w_t4, w_t5]
  rfl
set_option maxRecDepth 65536 in
theorem w_rest : rest_1_c.before args0 about1 = true := by decide +kernel
set_option maxRecDepth 65536 in
theorem w_case : (Jvm.Cond.and given_1 narrow_1).before args0 about1 = true := by decide +kernel
theorem w_applies : (headSpec (Jvm.Cond.code x code maxLocals ret :: tables_1) room_1).applies x e0.platform about1 = true :=
  (Spec.applies_iff w_frames).mpr ⟨w_running, w_runnable, w_alone, w_named, w_hears, w_ripe, w_room, w_tables⟩
theorem atStart : AtStart classFile x code maxLocals ret World_1 tables_1 room_1 Calls_1 rest_1 Pre_1 launch0 p0 e0 about1 theMethod args0 below0 :=
  ⟨lists_1, trivial, launch0.admits_env _ _ _, launch0.least_env, fairChoices_fair.cas, fairChoices_fair.clock, w_frames, w_args, w_heap, w_applies, trivial, w_rest, w_case⟩
end start1
theorem witness_1 : WitnessClaimed_1 := ⟨start1.p0, start1.e0, start1.about1, start1.theMethod, start1.args0, start1.below0, start1.atStart⟩
end Jvm.Pilot.@@N@@
