import JvmDerived
import JvmDerived.Pilot.@@N@@Statement
import JvmDerived.Pilot.@@N@@Code
set_option linter.unusedVariables false
set_option linter.unusedSimpArgs false
namespace Jvm.RoadKit
open Sem ClassFile Op Lib Jvm.Stand Jvm.Free Jvm.LawKit
section New
variable {p : Program} {l : Launch} {e : Env} {R : Room} {s : State} {m : MethodId} {args : Array Value} {below : List Frame} {meth : Method} {c : Code} {T : State} {locs : List Loc} {cells slots : Nat}
theorem retI (X : Stand p l e R s m args below meth c T locs cells slots) (hx : p.tables.exec = Jvm.exec) {pc : Nat} {Ls : Array Slot} {z : Int32} {rest : List Value} (hret : meth.sig.returnType = some .int) (hd : decode c.code pc = .ok (.ireturn, 1)) {fs : List Frame}
    (hl : ∀ (f : JFrame) (acts : List Action), f.method = m → f.locked = none → f.entered = [] → (doReturn e (T.setTop f) acts (some (.int z))).1 = T.setFrames fs) : Steps p.tables e below (T.setTop (mkF m pc Ls (.int z :: rest))) (T.setFrames fs) := by
  have hm' : T.vm.method? m = some meth := X.method'
  have hn : narrow .int (.int z) = .int z := rfl
  show Steps p.tables e below (T.setTop { method := m, pc := pc, locals := Ls, stack := _ :: rest, locked := none }) _
  jvm_step X.here [X.here.top, hx, hd, hm', hret, hn]
  first | (intro acts; rw [hl _ acts rfl rfl rfl]) | rw [hl _ _ rfl rfl rfl]
  exact Steps.refl _
end New
section Own
variable {p : Program} {l : Launch} {e : Env} {R : Room} {s : State} {m : MethodId} {args : Array Value} {below : List Frame} {meth : Method} {c : Code} {T A B : State} {locs : List Loc} {cells slots k n : Nat} {Q : Option Value → Heap → List Loc → Prop}
/-- from A the walk comes to its end, and Q holds there -/
def own_Go (p : Program) (e : Env) (below : List Frame) (s : State) (Q : Option Value → Heap → List Loc → Prop) (k n : Nat) (A : State) : Prop :=
  ∃ s₂ o, Steps p.tables e below A s₂ ∧ s₂.status = .running ∧ Ended s₂ below o ∧ ∃ v L, o = .returned v ∧ Q v s₂.heap L ∧ FrameEnd s o s₂ L k n
theorem own_st (h : ∀ t, Steps p.tables e below B t → Steps p.tables e below A t) (g : own_Go p e below s Q k n B) : own_Go p e below s Q k n A := by
  obtain ⟨s₂, o, h1, r⟩ := g
  exact ⟨s₂, o, h _ h1, r⟩
theorem own_tr (h : Steps p.tables e below A B) (g : own_Go p e below s Q k n B) : own_Go p e below s Q k n A := own_st (fun _ q => h.trans q) g
theorem own_end (X : Stand p l e R s m args below meth c T locs cells slots) (hlk : meth.locks = false) {v : Option Value} (hv : meth.sig.returnType = none → v = none) (hk : cells ≤ k) (hn : slots ≤ n) (hQ : Q v T.heap locs) {g : JFrame}
    (hgo : ∀ fs, (∀ (f : JFrame) (acts : List Action), f.method = m → f.locked = none → f.entered = [] → (doReturn e (T.setTop f) acts v).1 = T.setFrames fs) → Steps p.tables e below (T.setTop g) (T.setFrames fs)) : own_Go p e below s Q k n (T.setTop g) := by
  obtain ⟨fs, hr, hrun, hended, hW, hsame⟩ := X.leave hv hlk
  exact ⟨_, _, hgo fs hr, hrun, hended, v, locs, rfl, hQ, ⟨_, rfl⟩, hW, hsame.mono hk hn⟩
theorem own_retI (X : Stand p l e R s m args below meth c T locs cells slots) (hx : p.tables.exec = Jvm.exec) (hlk : meth.locks = false) {pc : Nat} {Ls : Array Slot} {z : Int32} {rest : List Value} (hret : meth.sig.returnType = some .int) (hd : decode c.code pc = .ok (.ireturn, 1)) (hk : cells ≤ k) (hn : slots ≤ n) (hQ : Q (some (.int z)) T.heap locs) :
    own_Go p e below s Q k n (T.setTop (mkF m pc Ls (.int z :: rest))) := own_end X hlk (fun h => by rw [hret] at h; cases h) hk hn hQ fun fs hr => retI X hx hret hd hr
theorem own_retN (X : Stand p l e R s m args below meth c T locs cells slots) (hx : p.tables.exec = Jvm.exec) (hlk : meth.locks = false) {pc : Nat} {Ls : Array Slot} {z z' : Int32} {rest : List Value} {t : FieldType} (hret : meth.sig.returnType = some t) (ht : t = .boolean ∨ t = .byte ∨ t = .char ∨ t = .short) (hz : nar t z = z') (hd : decode c.code pc = .ok (.ireturn, 1)) (hk : cells ≤ k) (hn : slots ≤ n) (hQ : Q (some (.int z')) T.heap locs) :
    own_Go p e below s Q k n (T.setTop (mkF m pc Ls (.int z :: rest))) := own_end X hlk (v := some (.int (nar t z))) (fun h => by rw [hret] at h; cases h) hk hn (hz ▸ hQ) fun fs hr => retN X hx hret ht hd hr
theorem own_retJ (X : Stand p l e R s m args below meth c T locs cells slots) (hx : p.tables.exec = Jvm.exec) (hlk : meth.locks = false) {pc : Nat} {Ls : Array Slot} {z : Int64} {rest : List Value} (hret : meth.sig.returnType = some .long) (hd : decode c.code pc = .ok (.lreturn, 1)) (hk : cells ≤ k) (hn : slots ≤ n) (hQ : Q (some (.long z)) T.heap locs) :
    own_Go p e below s Q k n (T.setTop (mkF m pc Ls (.long z :: rest))) := own_end X hlk (fun h => by rw [hret] at h; cases h) hk hn hQ fun fs hr => retOut X hx hret rfl (Or.inr (Or.inl ⟨rfl, rfl, _, rfl⟩)) hd hr
theorem own_retA (X : Stand p l e R s m args below meth c T locs cells slots) (hx : p.tables.exec = Jvm.exec) (hlk : meth.locks = false) {pc : Nat} {Ls : Array Slot} {w : Value} {t : FieldType} {rest : List Value} (hret : meth.sig.returnType = some t) (hw : w.isRef = true) (hd : decode c.code pc = .ok (.areturn, 1)) (hk : cells ≤ k) (hn : slots ≤ n) (hQ : Q (some w) T.heap locs) (ht : t.isReference = true := by rfl) :
    own_Go p e below s Q k n (T.setTop (mkF m pc Ls (w :: rest))) := own_end X hlk (fun h => by rw [hret] at h; cases h) hk hn hQ fun fs hr => retOut X hx hret (by cases w <;> first | (cases hw; done) | (cases t <;> first | (cases ht; done) | rfl)) (Or.inr (Or.inr (Or.inr (Or.inr ⟨rfl, ht, hw⟩)))) hd hr
theorem own_ret0 (X : Stand p l e R s m args below meth c T locs cells slots) (hx : p.tables.exec = Jvm.exec) (hlk : meth.locks = false) {pc : Nat} {Ls : Array Slot} (hret : meth.sig.returnType = none) (hd : decode c.code pc = .ok (.return_, 1)) (hk : cells ≤ k) (hn : slots ≤ n) (hQ : Q none T.heap locs) :
    own_Go p e below s Q k n (T.setTop (mkF m pc Ls [])) := own_end X hlk (fun _ => rfl) hk hn hQ fun fs hr => X.returnOut hx hret hd hr
end Own
theorem own_narR {C : String} {v : Value} (h : v.isRef = true) : narrow (.object C) v = v := by cases v <;> first | rfl | (cases h; done)
theorem own_fitR {C : String} {v : Value} (h : v.isRef = true) : fits (.object C) v = true := by cases v <;> first | rfl | (cases h; done)
theorem own_pad (n : Nat) (d : Value) (i : Nat) : (List.replicate n d).getD i d = ([] : List Value).getD i d := by
  have h := pad_rep [] d n i
  simpa using h
end Jvm.RoadKit
namespace Jvm.Pilot.@@N@@
open Jvm Jvm.ClassFile Sem Op Lib Jvm.Free Jvm.Stand Jvm.LawKit Jvm.RoadKit Bundle Jvm.Pilot.@@N@@.Jvm.D
theorem own_eqV {args : Array Value} {first s : State} {o : Option Outcome} {idx : List Nat} {t u : Term} {w : Value} (h : (Cond.eq t u).value args first o s idx = some true) (hu : u.eval args first o idx s = some w) : t.eval args first o idx s = some w := by
  simp only [Cond.value, hu] at h
  cases ht : t.eval args first o idx s with
  | none => simp [ht] at h
  | some v => cases v <;> cases w <;> simp_all

theorem own_rem (x n : Int32) (hn : 0 < n.toInt) : 0 ≤ ((x &&& (2147483647 : Int32)) % n).toInt ∧ ((x &&& (2147483647 : Int32)) % n).toInt < n.toInt := by
  have h : ¬ (x &&& (2147483647 : Int32)) < 0 := by
    rw [XT.and_neg32]
    intro h
    exact absurd h.2 (by decide)
  rw [XT.negI32] at h
  rw [Int32.toInt_mod]
  exact ⟨Int.tmod_nonneg _ (by omega), Int.tmod_lt_of_pos _ hn⟩
theorem own_nat {k : Int32} {n : Nat} (hn : n ≤ 2147483647) (h0 : 0 ≤ k.toInt) (h1 : k.toInt < n) : ∃ i : Nat, i < n ∧ k = i.toInt32 :=
  ⟨k.toInt.toNat, by omega, Int32.toInt_inj.mp (by rw [len_toInt (by omega)]; omega)⟩
theorem own_remN (x m : Int32) (n : Nat) (hm : m.toInt = n) (hn : 0 < n) (hn' : n ≤ 2147483647) : ∃ i : Nat, i < n ∧ (x &&& (2147483647 : Int32)) % m = i.toInt32 := by
  have h := own_rem x m (by omega)
  exact own_nat hn' h.1 (by omega)
theorem own_lits15 (x : Int32) : (x &&& (2147483647 : Int32)) % (15 : Int32) = 0 ∨ (x &&& (2147483647 : Int32)) % (15 : Int32) = 1 ∨ (x &&& (2147483647 : Int32)) % (15 : Int32) = 2 ∨ (x &&& (2147483647 : Int32)) % (15 : Int32) = 3 ∨ (x &&& (2147483647 : Int32)) % (15 : Int32) = 4 ∨ (x &&& (2147483647 : Int32)) % (15 : Int32) = 5 ∨ (x &&& (2147483647 : Int32)) % (15 : Int32) = 6 ∨ (x &&& (2147483647 : Int32)) % (15 : Int32) = 7 ∨ (x &&& (2147483647 : Int32)) % (15 : Int32) = 8 ∨ (x &&& (2147483647 : Int32)) % (15 : Int32) = 9 ∨ (x &&& (2147483647 : Int32)) % (15 : Int32) = 10 ∨ (x &&& (2147483647 : Int32)) % (15 : Int32) = 11 ∨ (x &&& (2147483647 : Int32)) % (15 : Int32) = 12 ∨ (x &&& (2147483647 : Int32)) % (15 : Int32) = 13 ∨ (x &&& (2147483647 : Int32)) % (15 : Int32) = 14 := by
  obtain ⟨i, hi, e⟩ := own_remN x 15 15 (by decide) (by decide) (by decide)
  rw [e]
  have h : i = 0 ∨ i = 1 ∨ i = 2 ∨ i = 3 ∨ i = 4 ∨ i = 5 ∨ i = 6 ∨ i = 7 ∨ i = 8 ∨ i = 9 ∨ i = 10 ∨ i = 11 ∨ i = 12 ∨ i = 13 ∨ i = 14 := by omega
  rcases h with rfl | rfl | rfl | rfl | rfl | rfl | rfl | rfl | rfl | rfl | rfl | rfl | rfl | rfl | rfl <;> decide
def own_is (w0 w1 w2 w3 r : Addr) : Int32 := if r = w0 then 1 else if r = w1 then 1 else if r = w2 then 1 else if r = w3 then 1 else 0
theorem own_d_prog_44_method_7_code_0 : decode prog_44_method_7_code 0 = .ok (.aload_n 0, 1) := by decide +kernel
theorem own_d_prog_44_method_7_code_1 : decode prog_44_method_7_code 1 = .ok (.getstatic 34, 3) := by decide +kernel
theorem own_d_prog_44_method_7_code_4 : decode prog_44_method_7_code 4 = .ok (.if_acmp .eq 24, 3) := by decide +kernel
theorem own_d_prog_44_method_7_code_7 : decode prog_44_method_7_code 7 = .ok (.aload_n 0, 1) := by decide +kernel
theorem own_d_prog_44_method_7_code_8 : decode prog_44_method_7_code 8 = .ok (.getstatic 37, 3) := by decide +kernel
theorem own_d_prog_44_method_7_code_11 : decode prog_44_method_7_code 11 = .ok (.if_acmp .eq 17, 3) := by decide +kernel
theorem own_d_prog_44_method_7_code_14 : decode prog_44_method_7_code 14 = .ok (.aload_n 0, 1) := by decide +kernel
theorem own_d_prog_44_method_7_code_15 : decode prog_44_method_7_code 15 = .ok (.getstatic 40, 3) := by decide +kernel
theorem own_d_prog_44_method_7_code_18 : decode prog_44_method_7_code 18 = .ok (.if_acmp .eq 10, 3) := by decide +kernel
theorem own_d_prog_44_method_7_code_21 : decode prog_44_method_7_code 21 = .ok (.aload_n 0, 1) := by decide +kernel
theorem own_d_prog_44_method_7_code_22 : decode prog_44_method_7_code 22 = .ok (.getstatic 43, 3) := by decide +kernel
theorem own_d_prog_44_method_7_code_25 : decode prog_44_method_7_code 25 = .ok (.if_acmp .ne 7, 3) := by decide +kernel
theorem own_d_prog_44_method_7_code_28 : decode prog_44_method_7_code 28 = .ok (.iconst 1, 1) := by decide +kernel
theorem own_d_prog_44_method_7_code_29 : decode prog_44_method_7_code 29 = .ok (.goto 4, 3) := by decide +kernel
theorem own_d_prog_44_method_7_code_32 : decode prog_44_method_7_code 32 = .ok (.iconst 0, 1) := by decide +kernel
theorem own_d_prog_44_method_7_code_33 : decode prog_44_method_7_code 33 = .ok (.ireturn, 1) := by decide +kernel
theorem own_pn0 : plainFor (⟨"com/example/concordat/concordat/TxStatus", "isHeuristic", "()Z"⟩ : MethodName) = true := by decide +kernel
def own_rm_is_Q (Z : State) (r : Addr) (w0 : Addr) (w1 : Addr) (w2 : Addr) (w3 : Addr) (h0 : Heap) (n0 : Nat) (v : Option Value) (h : Heap) (L : List Loc) : Prop := Fr n0 L ∧ v = some (.int (own_is w0 w1 w2 w3 r)) ∧ h = h0
theorem own_rm_is_ef (m : MethodId) (r : Addr) : entryFrame m #[(.ref r)] 1 = mkF m 0 #[.val (.ref r)] [] := by first | (simp [entryFrame, mkF, argsToLocals, Value.category]; done) | rfl
set_option maxRecDepth 65536 in
set_option maxHeartbeats 40000000 in
theorem own_rm_is (l : Launch) (Z : State) (a0 : Array Value) (hw : ∀ d ∈ tables_1, d.before a0 Z = true) (ws : List Jvm.Cond) (r : Addr) (w0 : Addr) (w1 : Addr) (w2 : Addr) (w3 : Addr) (h0 : Heap) (n0 : Nat) (Z0 : n0 ≤ h0.size) (O0 : Old Z n0 h0) (S0 : Sta Z Z.heap "com/example/concordat/concordat/TxStatus" "TransactionHeuristicRollback" "Lcom/example/concordat/concordat/TxStatus;" (.ref w0)) (S1 : Sta Z Z.heap "com/example/concordat/concordat/TxStatus" "TransactionHeuristicCommit" "Lcom/example/concordat/concordat/TxStatus;" (.ref w1)) (S2 : Sta Z Z.heap "com/example/concordat/concordat/TxStatus" "TransactionHeuristicMixed" "Lcom/example/concordat/concordat/TxStatus;" (.ref w2)) (S3 : Sta Z Z.heap "com/example/concordat/concordat/TxStatus" "TransactionHeuristicHazard" "Lcom/example/concordat/concordat/TxStatus;" (.ref w3)) :
    MetFree l (⟨"com/example/concordat/concordat/TxStatus", "isHeuristic", "()Z"⟩ : MethodName) (head1 (Jvm.Cond.code (⟨"com/example/concordat/concordat/TxStatus", "isHeuristic", "()Z"⟩ : MethodName) prog_44_method_7_code 1 (some .boolean) :: ws) ({ frames := 0, cells := 0, slots := 0, locals := 0 } : Room)) (fun a U => a = #[(.ref r)] ∧ Z.Warmed39 U.vm ∧ U.heap = h0) (fun _ _ _ _ _ => True) (fun _ U o U' => ∃ v L, o = .returned v ∧ own_rm_is_Q Z r w0 w1 w2 w3 h0 n0 v U'.heap L ∧ FrameEnd U o U' L ({ frames := 0, cells := 0, slots := 0, locals := 0 } : Room).cells ({ frames := 0, cells := 0, slots := 0, locals := 0 } : Room).slots) := by
  refine MetFree.of_bodySF own_pn0 hisR ?_
  intro p e s m args below meth c s₁ Bd hml0 hP hK
  obtain ⟨rfl, hZ, hh⟩ := hP
  have hx := Bd.exec
  have hby := Bd.bytes
  have hml : c.maxLocals = 1 := hml0
  have hlk := BodyLoose.notSynchronized Bd
  have hown : s.vm.findClass "com/example/concordat/concordat/TxStatus" = some m.cls := findClass_of_methodNamed Bd.named
  have hnm := (name_of_methodNamed Bd.named Bd.method).1
  have X0 : Stand p l e ({ frames := 0, cells := 0, slots := 0, locals := 0 } : Room) s m #[(.ref r)] below meth c s₁ [] 0 0 := Stand.of_body Bd
  have e0 : s₁.heap = h0 := by rw [← hh, Bd.state]; rfl
  have N0 := Fr.nil n0
  show own_Go p e below s (own_rm_is_Q Z r w0 w1 w2 w3 h0 n0) ({ frames := 0, cells := 0, slots := 0, locals := 0 } : Room).cells ({ frames := 0, cells := 0, slots := 0, locals := 0 } : Room).slots (s₁.setTop (entryFrame m #[(.ref r)] 1))
  rw [own_rm_is_ef]
  show own_Go p e below s _ _ _ (s₁.setTop (mkF m 0 #[.val (.ref r)] []))
  refine own_st (fun _ k => XS.aloadN X0.here hx rfl (hb hby own_d_prog_44_method_7_code_0) rfl rfl k) ?_
  show own_Go p e below s _ _ _ (s₁.setTop (mkF m 1 #[.val (.ref r)] [(.ref r)]))
  have F1 : Sta Z h0 "com/example/concordat/concordat/TxStatus" "TransactionHeuristicRollback" "Lcom/example/concordat/concordat/TxStatus;" (.ref w0) := S0.ext O0.2
  obtain ⟨T2, X2, e2, st2⟩ := getS2 X0 hx hZ hown (host := "") (Or.inl (hw _ (List.mem_of_getElem? (i := 40) rfl))) Via.refl e0 F1 (g := (mkF m 1 #[.val (.ref r)] [(.ref r)])) rfl (hb hby own_d_prog_44_method_7_code_1)
  refine own_st st2 ?_
  show own_Go p e below s _ _ _ (T2.setTop (mkF m 4 #[.val (.ref r)] [(.ref w0), (.ref r)]))
  by_cases hc3 : r = w0
  · refine own_st (fun _ k => XT.acmpYes X2.here hx rfl (pc0 := 4) (pc' := 28) rfl (hb hby own_d_prog_44_method_7_code_4) rfl rfl rfl (XT.aa_eq_t (congrArg Value.ref hc3)) (by decide) (by decide) k) ?_
    show own_Go p e below s _ _ _ (T2.setTop (mkF m 28 #[.val (.ref r)] []))
    refine own_st (fun _ k => XT.iconstV X2.here hx rfl (1 : Int32) (hb hby own_d_prog_44_method_7_code_28) (by decide) k) ?_
    show own_Go p e below s _ _ _ (T2.setTop (mkF m 29 #[.val (.ref r)] [(.int (1 : Int32))]))
    refine own_st (fun _ k => XS.goto X2.here hx rfl (pc0 := 29) (pc' := 33) rfl (hb hby own_d_prog_44_method_7_code_29) (by decide) (by decide) k) ?_
    show own_Go p e below s _ _ _ (T2.setTop (mkF m 33 #[.val (.ref r)] [(.int (1 : Int32))]))
    refine own_retN X2 hx hlk Bd.returns (t := .boolean) (z' := (1 : Int32)) (by simp) (by decide) (hb hby own_d_prog_44_method_7_code_33) (by decide) (by decide) ?_
    rw [e2]
    exact ⟨N0, (by unfold own_is; rw [if_pos hc3]), rfl⟩
  · refine own_st (fun _ k => XT.acmpNo X2.here hx rfl (hb hby own_d_prog_44_method_7_code_4) rfl rfl rfl (XT.aa_eq_f (fun q => hc3 (Value.ref.inj q))) k) ?_
    show own_Go p e below s _ _ _ (T2.setTop (mkF m 7 #[.val (.ref r)] []))
    refine own_st (fun _ k => XS.aloadN X2.here hx rfl (hb hby own_d_prog_44_method_7_code_7) rfl rfl k) ?_
    show own_Go p e below s _ _ _ (T2.setTop (mkF m 8 #[.val (.ref r)] [(.ref r)]))
    have F4 : Sta Z h0 "com/example/concordat/concordat/TxStatus" "TransactionHeuristicCommit" "Lcom/example/concordat/concordat/TxStatus;" (.ref w1) := S1.ext O0.2
    obtain ⟨T5, X5, e5, st5⟩ := getS2 X2 hx hZ hown (host := "") (Or.inl (hw _ (List.mem_of_getElem? (i := 41) rfl))) Via.refl e2 F4 (g := (mkF m 8 #[.val (.ref r)] [(.ref r)])) rfl (hb hby own_d_prog_44_method_7_code_8)
    refine own_st st5 ?_
    show own_Go p e below s _ _ _ (T5.setTop (mkF m 11 #[.val (.ref r)] [(.ref w1), (.ref r)]))
    by_cases hc6 : r = w1
    · refine own_st (fun _ k => XT.acmpYes X5.here hx rfl (pc0 := 11) (pc' := 28) rfl (hb hby own_d_prog_44_method_7_code_11) rfl rfl rfl (XT.aa_eq_t (congrArg Value.ref hc6)) (by decide) (by decide) k) ?_
      show own_Go p e below s _ _ _ (T5.setTop (mkF m 28 #[.val (.ref r)] []))
      refine own_st (fun _ k => XT.iconstV X5.here hx rfl (1 : Int32) (hb hby own_d_prog_44_method_7_code_28) (by decide) k) ?_
      show own_Go p e below s _ _ _ (T5.setTop (mkF m 29 #[.val (.ref r)] [(.int (1 : Int32))]))
      refine own_st (fun _ k => XS.goto X5.here hx rfl (pc0 := 29) (pc' := 33) rfl (hb hby own_d_prog_44_method_7_code_29) (by decide) (by decide) k) ?_
      show own_Go p e below s _ _ _ (T5.setTop (mkF m 33 #[.val (.ref r)] [(.int (1 : Int32))]))
      refine own_retN X5 hx hlk Bd.returns (t := .boolean) (z' := (1 : Int32)) (by simp) (by decide) (hb hby own_d_prog_44_method_7_code_33) (by decide) (by decide) ?_
      rw [e5]
      exact ⟨N0, (by unfold own_is; rw [if_neg hc3, if_pos hc6]), rfl⟩
    · refine own_st (fun _ k => XT.acmpNo X5.here hx rfl (hb hby own_d_prog_44_method_7_code_11) rfl rfl rfl (XT.aa_eq_f (fun q => hc6 (Value.ref.inj q))) k) ?_
      show own_Go p e below s _ _ _ (T5.setTop (mkF m 14 #[.val (.ref r)] []))
      refine own_st (fun _ k => XS.aloadN X5.here hx rfl (hb hby own_d_prog_44_method_7_code_14) rfl rfl k) ?_
      show own_Go p e below s _ _ _ (T5.setTop (mkF m 15 #[.val (.ref r)] [(.ref r)]))
      have F7 : Sta Z h0 "com/example/concordat/concordat/TxStatus" "TransactionHeuristicMixed" "Lcom/example/concordat/concordat/TxStatus;" (.ref w2) := S2.ext O0.2
      obtain ⟨T8, X8, e8, st8⟩ := getS2 X5 hx hZ hown (host := "") (Or.inl (hw _ (List.mem_of_getElem? (i := 42) rfl))) Via.refl e5 F7 (g := (mkF m 15 #[.val (.ref r)] [(.ref r)])) rfl (hb hby own_d_prog_44_method_7_code_15)
      refine own_st st8 ?_
      show own_Go p e below s _ _ _ (T8.setTop (mkF m 18 #[.val (.ref r)] [(.ref w2), (.ref r)]))
      by_cases hc9 : r = w2
      · refine own_st (fun _ k => XT.acmpYes X8.here hx rfl (pc0 := 18) (pc' := 28) rfl (hb hby own_d_prog_44_method_7_code_18) rfl rfl rfl (XT.aa_eq_t (congrArg Value.ref hc9)) (by decide) (by decide) k) ?_
        show own_Go p e below s _ _ _ (T8.setTop (mkF m 28 #[.val (.ref r)] []))
        refine own_st (fun _ k => XT.iconstV X8.here hx rfl (1 : Int32) (hb hby own_d_prog_44_method_7_code_28) (by decide) k) ?_
        show own_Go p e below s _ _ _ (T8.setTop (mkF m 29 #[.val (.ref r)] [(.int (1 : Int32))]))
        refine own_st (fun _ k => XS.goto X8.here hx rfl (pc0 := 29) (pc' := 33) rfl (hb hby own_d_prog_44_method_7_code_29) (by decide) (by decide) k) ?_
        show own_Go p e below s _ _ _ (T8.setTop (mkF m 33 #[.val (.ref r)] [(.int (1 : Int32))]))
        refine own_retN X8 hx hlk Bd.returns (t := .boolean) (z' := (1 : Int32)) (by simp) (by decide) (hb hby own_d_prog_44_method_7_code_33) (by decide) (by decide) ?_
        rw [e8]
        exact ⟨N0, (by unfold own_is; rw [if_neg hc3, if_neg hc6, if_pos hc9]), rfl⟩
      · refine own_st (fun _ k => XT.acmpNo X8.here hx rfl (hb hby own_d_prog_44_method_7_code_18) rfl rfl rfl (XT.aa_eq_f (fun q => hc9 (Value.ref.inj q))) k) ?_
        show own_Go p e below s _ _ _ (T8.setTop (mkF m 21 #[.val (.ref r)] []))
        refine own_st (fun _ k => XS.aloadN X8.here hx rfl (hb hby own_d_prog_44_method_7_code_21) rfl rfl k) ?_
        show own_Go p e below s _ _ _ (T8.setTop (mkF m 22 #[.val (.ref r)] [(.ref r)]))
        have F10 : Sta Z h0 "com/example/concordat/concordat/TxStatus" "TransactionHeuristicHazard" "Lcom/example/concordat/concordat/TxStatus;" (.ref w3) := S3.ext O0.2
        obtain ⟨T11, X11, e11, st11⟩ := getS2 X8 hx hZ hown (host := "") (Or.inl (hw _ (List.mem_of_getElem? (i := 43) rfl))) Via.refl e8 F10 (g := (mkF m 22 #[.val (.ref r)] [(.ref r)])) rfl (hb hby own_d_prog_44_method_7_code_22)
        refine own_st st11 ?_
        show own_Go p e below s _ _ _ (T11.setTop (mkF m 25 #[.val (.ref r)] [(.ref w3), (.ref r)]))
        by_cases hc12 : r = w3
        · refine own_st (fun _ k => XT.acmpNo X11.here hx rfl (hb hby own_d_prog_44_method_7_code_25) rfl rfl rfl (XT.aa_ne_f (congrArg Value.ref hc12)) k) ?_
          show own_Go p e below s _ _ _ (T11.setTop (mkF m 28 #[.val (.ref r)] []))
          refine own_st (fun _ k => XT.iconstV X11.here hx rfl (1 : Int32) (hb hby own_d_prog_44_method_7_code_28) (by decide) k) ?_
          show own_Go p e below s _ _ _ (T11.setTop (mkF m 29 #[.val (.ref r)] [(.int (1 : Int32))]))
          refine own_st (fun _ k => XS.goto X11.here hx rfl (pc0 := 29) (pc' := 33) rfl (hb hby own_d_prog_44_method_7_code_29) (by decide) (by decide) k) ?_
          show own_Go p e below s _ _ _ (T11.setTop (mkF m 33 #[.val (.ref r)] [(.int (1 : Int32))]))
          refine own_retN X11 hx hlk Bd.returns (t := .boolean) (z' := (1 : Int32)) (by simp) (by decide) (hb hby own_d_prog_44_method_7_code_33) (by decide) (by decide) ?_
          rw [e11]
          exact ⟨N0, (by unfold own_is; rw [if_neg hc3, if_neg hc6, if_neg hc9, if_pos hc12]), rfl⟩
        · refine own_st (fun _ k => XT.acmpYes X11.here hx rfl (pc0 := 25) (pc' := 32) rfl (hb hby own_d_prog_44_method_7_code_25) rfl rfl rfl (XT.aa_ne_t (fun q => hc12 (Value.ref.inj q))) (by decide) (by decide) k) ?_
          show own_Go p e below s _ _ _ (T11.setTop (mkF m 32 #[.val (.ref r)] []))
          refine own_st (fun _ k => XT.iconstV X11.here hx rfl (0 : Int32) (hb hby own_d_prog_44_method_7_code_32) (by decide) k) ?_
          show own_Go p e below s _ _ _ (T11.setTop (mkF m 33 #[.val (.ref r)] [(.int (0 : Int32))]))
          refine own_retN X11 hx hlk Bd.returns (t := .boolean) (z' := (0 : Int32)) (by simp) (by decide) (hb hby own_d_prog_44_method_7_code_33) (by decide) (by decide) ?_
          rw [e11]
          exact ⟨N0, (by unfold own_is; rw [if_neg hc3, if_neg hc6, if_neg hc9, if_neg hc12]), rfl⟩
theorem own_pn1 : plainFor (⟨"com/example/concordat/concordat/TxStatusIsHeuristicPinLaw", "law", "(I)Z"⟩ : MethodName) = true := by decide +kernel
theorem own_pd0 : parseMethodDescriptor "()Z" = some ⟨[], some .boolean⟩ := by decide +kernel
def own_law_Q (Z : State) (n0 : Nat) (v : Option Value) (h : Heap) (L : List Loc) : Prop := Fr n0 L ∧ v = some (.int 1)
theorem own_law_ef (m : MethodId) (p1 : Int32) : entryFrame m #[(.int p1)] maxLocals = mkF m 0 #[.val (.int p1), .unset, .unset, .unset] [] := by first | (simp [entryFrame, mkF, argsToLocals, Value.category, maxLocals]; done) | rfl
set_option maxRecDepth 65536 in
set_option maxHeartbeats 40000000 in
theorem own_law (l : Launch) (Z : State) (a0 : Array Value) (hw : ∀ d ∈ tables_1, d.before a0 Z = true) (ws : List Jvm.Cond) (p1 : Int32) (a_TransactionActive : Addr) (a_TransactionPreparing : Addr) (a_TransactionPrepared : Addr) (a_TransactionCommitting : Addr) (a_TransactionCommitted : Addr) (a_TransactionCommittedOnePhase : Addr) (a_TransactionRollingBack : Addr) (a_TransactionRolledBack : Addr) (a_TransactionRollbackOnly : Addr) (a_TransactionReadOnly : Addr) (a_TransactionHeuristicRollback : Addr) (a_TransactionHeuristicCommit : Addr) (a_TransactionHeuristicMixed : Addr) (a_TransactionHeuristicHazard : Addr) (a_TransactionStatusUnknown : Addr) (h0 : Heap) (n0 : Nat) (Z0 : n0 ≤ h0.size) (O0 : Old Z n0 h0) (Ex_a_TransactionActive : Exa Z Z.heap a_TransactionActive "com/example/concordat/concordat/TxStatus") (S_a_TransactionActive : Sta Z Z.heap "com/example/concordat/concordat/TxStatus" "TransactionActive" "Lcom/example/concordat/concordat/TxStatus;" (.ref a_TransactionActive)) (Ex_a_TransactionPreparing : Exa Z Z.heap a_TransactionPreparing "com/example/concordat/concordat/TxStatus") (S_a_TransactionPreparing : Sta Z Z.heap "com/example/concordat/concordat/TxStatus" "TransactionPreparing" "Lcom/example/concordat/concordat/TxStatus;" (.ref a_TransactionPreparing)) (Ex_a_TransactionPrepared : Exa Z Z.heap a_TransactionPrepared "com/example/concordat/concordat/TxStatus") (S_a_TransactionPrepared : Sta Z Z.heap "com/example/concordat/concordat/TxStatus" "TransactionPrepared" "Lcom/example/concordat/concordat/TxStatus;" (.ref a_TransactionPrepared)) (Ex_a_TransactionCommitting : Exa Z Z.heap a_TransactionCommitting "com/example/concordat/concordat/TxStatus") (S_a_TransactionCommitting : Sta Z Z.heap "com/example/concordat/concordat/TxStatus" "TransactionCommitting" "Lcom/example/concordat/concordat/TxStatus;" (.ref a_TransactionCommitting)) (Ex_a_TransactionCommitted : Exa Z Z.heap a_TransactionCommitted "com/example/concordat/concordat/TxStatus") (S_a_TransactionCommitted : Sta Z Z.heap "com/example/concordat/concordat/TxStatus" "TransactionCommitted" "Lcom/example/concordat/concordat/TxStatus;" (.ref a_TransactionCommitted)) (Ex_a_TransactionCommittedOnePhase : Exa Z Z.heap a_TransactionCommittedOnePhase "com/example/concordat/concordat/TxStatus") (S_a_TransactionCommittedOnePhase : Sta Z Z.heap "com/example/concordat/concordat/TxStatus" "TransactionCommittedOnePhase" "Lcom/example/concordat/concordat/TxStatus;" (.ref a_TransactionCommittedOnePhase)) (Ex_a_TransactionRollingBack : Exa Z Z.heap a_TransactionRollingBack "com/example/concordat/concordat/TxStatus") (S_a_TransactionRollingBack : Sta Z Z.heap "com/example/concordat/concordat/TxStatus" "TransactionRollingBack" "Lcom/example/concordat/concordat/TxStatus;" (.ref a_TransactionRollingBack)) (Ex_a_TransactionRolledBack : Exa Z Z.heap a_TransactionRolledBack "com/example/concordat/concordat/TxStatus") (S_a_TransactionRolledBack : Sta Z Z.heap "com/example/concordat/concordat/TxStatus" "TransactionRolledBack" "Lcom/example/concordat/concordat/TxStatus;" (.ref a_TransactionRolledBack)) (Ex_a_TransactionRollbackOnly : Exa Z Z.heap a_TransactionRollbackOnly "com/example/concordat/concordat/TxStatus") (S_a_TransactionRollbackOnly : Sta Z Z.heap "com/example/concordat/concordat/TxStatus" "TransactionRollbackOnly" "Lcom/example/concordat/concordat/TxStatus;" (.ref a_TransactionRollbackOnly)) (Ex_a_TransactionReadOnly : Exa Z Z.heap a_TransactionReadOnly "com/example/concordat/concordat/TxStatus") (S_a_TransactionReadOnly : Sta Z Z.heap "com/example/concordat/concordat/TxStatus" "TransactionReadOnly" "Lcom/example/concordat/concordat/TxStatus;" (.ref a_TransactionReadOnly)) (Ex_a_TransactionHeuristicRollback : Exa Z Z.heap a_TransactionHeuristicRollback "com/example/concordat/concordat/TxStatus") (S_a_TransactionHeuristicRollback : Sta Z Z.heap "com/example/concordat/concordat/TxStatus" "TransactionHeuristicRollback" "Lcom/example/concordat/concordat/TxStatus;" (.ref a_TransactionHeuristicRollback)) (Ex_a_TransactionHeuristicCommit : Exa Z Z.heap a_TransactionHeuristicCommit "com/example/concordat/concordat/TxStatus") (S_a_TransactionHeuristicCommit : Sta Z Z.heap "com/example/concordat/concordat/TxStatus" "TransactionHeuristicCommit" "Lcom/example/concordat/concordat/TxStatus;" (.ref a_TransactionHeuristicCommit)) (Ex_a_TransactionHeuristicMixed : Exa Z Z.heap a_TransactionHeuristicMixed "com/example/concordat/concordat/TxStatus") (S_a_TransactionHeuristicMixed : Sta Z Z.heap "com/example/concordat/concordat/TxStatus" "TransactionHeuristicMixed" "Lcom/example/concordat/concordat/TxStatus;" (.ref a_TransactionHeuristicMixed)) (Ex_a_TransactionHeuristicHazard : Exa Z Z.heap a_TransactionHeuristicHazard "com/example/concordat/concordat/TxStatus") (S_a_TransactionHeuristicHazard : Sta Z Z.heap "com/example/concordat/concordat/TxStatus" "TransactionHeuristicHazard" "Lcom/example/concordat/concordat/TxStatus;" (.ref a_TransactionHeuristicHazard)) (Ex_a_TransactionStatusUnknown : Exa Z Z.heap a_TransactionStatusUnknown "com/example/concordat/concordat/TxStatus") (S_a_TransactionStatusUnknown : Sta Z Z.heap "com/example/concordat/concordat/TxStatus" "TransactionStatusUnknown" "Lcom/example/concordat/concordat/TxStatus;" (.ref a_TransactionStatusUnknown)) (F_TransactionActive_ordinal : Fld Z Z.heap a_TransactionActive "java/lang/Enum" "ordinal" "I" (.int (0 : Int32))) (F_TransactionHeuristicRollback_ordinal : Fld Z Z.heap a_TransactionHeuristicRollback "java/lang/Enum" "ordinal" "I" (.int (10 : Int32))) (F_TransactionHeuristicCommit_ordinal : Fld Z Z.heap a_TransactionHeuristicCommit "java/lang/Enum" "ordinal" "I" (.int (11 : Int32))) (F_TransactionHeuristicMixed_ordinal : Fld Z Z.heap a_TransactionHeuristicMixed "java/lang/Enum" "ordinal" "I" (.int (12 : Int32))) (F_TransactionHeuristicHazard_ordinal : Fld Z Z.heap a_TransactionHeuristicHazard "java/lang/Enum" "ordinal" "I" (.int (13 : Int32))) (F_TransactionCommitting_ordinal : Fld Z Z.heap a_TransactionCommitting "java/lang/Enum" "ordinal" "I" (.int (3 : Int32))) (F_TransactionCommittedOnePhase_ordinal : Fld Z Z.heap a_TransactionCommittedOnePhase "java/lang/Enum" "ordinal" "I" (.int (5 : Int32))) (F_TransactionRollingBack_ordinal : Fld Z Z.heap a_TransactionRollingBack "java/lang/Enum" "ordinal" "I" (.int (6 : Int32))) (F_TransactionStatusUnknown_ordinal : Fld Z Z.heap a_TransactionStatusUnknown "java/lang/Enum" "ordinal" "I" (.int (14 : Int32))) (F_TransactionRolledBack_ordinal : Fld Z Z.heap a_TransactionRolledBack "java/lang/Enum" "ordinal" "I" (.int (7 : Int32))) (F_TransactionPrepared_ordinal : Fld Z Z.heap a_TransactionPrepared "java/lang/Enum" "ordinal" "I" (.int (2 : Int32))) (F_TransactionRollbackOnly_ordinal : Fld Z Z.heap a_TransactionRollbackOnly "java/lang/Enum" "ordinal" "I" (.int (8 : Int32))) (F_TransactionPreparing_ordinal : Fld Z Z.heap a_TransactionPreparing "java/lang/Enum" "ordinal" "I" (.int (1 : Int32))) (F_TransactionCommitted_ordinal : Fld Z Z.heap a_TransactionCommitted "java/lang/Enum" "ordinal" "I" (.int (4 : Int32))) (F_TransactionReadOnly_ordinal : Fld Z Z.heap a_TransactionReadOnly "java/lang/Enum" "ordinal" "I" (.int (9 : Int32))) :
    MetFree l x (head1 (Jvm.Cond.code x code maxLocals ret :: ws) room_1) (fun a U => a = #[(.int p1)] ∧ Z.Warmed39 U.vm ∧ U.heap = h0) (fun _ _ _ _ _ => True) (fun _ U o U' => ∃ v L, o = .returned v ∧ own_law_Q Z n0 v U'.heap L ∧ FrameEnd U o U' L 16 128) := by
  refine MetFree.of_bodySF own_pn1 hisR ?_
  intro p e s m args below meth c s₁ Bd hml0 hP hK
  obtain ⟨rfl, hZ, hh⟩ := hP
  have hx := Bd.exec
  have hby := Bd.bytes
  have hml : c.maxLocals = 4 := hml0
  have hlk := BodyLoose.notSynchronized Bd
  have hown : s.vm.findClass "com/example/concordat/concordat/TxStatusIsHeuristicPinLaw" = some m.cls := findClass_of_methodNamed Bd.named
  have hnm := (name_of_methodNamed Bd.named Bd.method).1
  have X0 : Stand p l e room_1 s m #[(.int p1)] below meth c s₁ [] 0 0 := Stand.of_body Bd
  have e0 : s₁.heap = h0 := by rw [← hh, Bd.state]; rfl
  have N0 := Fr.nil n0
  have ne_Active_HeuristicRollback := Fld.ne F_TransactionActive_ordinal F_TransactionHeuristicRollback_ordinal (by decide)
  have ne_Active_HeuristicCommit := Fld.ne F_TransactionActive_ordinal F_TransactionHeuristicCommit_ordinal (by decide)
  have ne_Active_HeuristicMixed := Fld.ne F_TransactionActive_ordinal F_TransactionHeuristicMixed_ordinal (by decide)
  have ne_Active_HeuristicHazard := Fld.ne F_TransactionActive_ordinal F_TransactionHeuristicHazard_ordinal (by decide)
  have ne_Preparing_HeuristicRollback := Fld.ne F_TransactionPreparing_ordinal F_TransactionHeuristicRollback_ordinal (by decide)
  have ne_Preparing_HeuristicCommit := Fld.ne F_TransactionPreparing_ordinal F_TransactionHeuristicCommit_ordinal (by decide)
  have ne_Preparing_HeuristicMixed := Fld.ne F_TransactionPreparing_ordinal F_TransactionHeuristicMixed_ordinal (by decide)
  have ne_Preparing_HeuristicHazard := Fld.ne F_TransactionPreparing_ordinal F_TransactionHeuristicHazard_ordinal (by decide)
  have ne_Prepared_HeuristicRollback := Fld.ne F_TransactionPrepared_ordinal F_TransactionHeuristicRollback_ordinal (by decide)
  have ne_Prepared_HeuristicCommit := Fld.ne F_TransactionPrepared_ordinal F_TransactionHeuristicCommit_ordinal (by decide)
  have ne_Prepared_HeuristicMixed := Fld.ne F_TransactionPrepared_ordinal F_TransactionHeuristicMixed_ordinal (by decide)
  have ne_Prepared_HeuristicHazard := Fld.ne F_TransactionPrepared_ordinal F_TransactionHeuristicHazard_ordinal (by decide)
  have ne_Committing_HeuristicRollback := Fld.ne F_TransactionCommitting_ordinal F_TransactionHeuristicRollback_ordinal (by decide)
  have ne_Committing_HeuristicCommit := Fld.ne F_TransactionCommitting_ordinal F_TransactionHeuristicCommit_ordinal (by decide)
  have ne_Committing_HeuristicMixed := Fld.ne F_TransactionCommitting_ordinal F_TransactionHeuristicMixed_ordinal (by decide)
  have ne_Committing_HeuristicHazard := Fld.ne F_TransactionCommitting_ordinal F_TransactionHeuristicHazard_ordinal (by decide)
  have ne_Committed_HeuristicRollback := Fld.ne F_TransactionCommitted_ordinal F_TransactionHeuristicRollback_ordinal (by decide)
  have ne_Committed_HeuristicCommit := Fld.ne F_TransactionCommitted_ordinal F_TransactionHeuristicCommit_ordinal (by decide)
  have ne_Committed_HeuristicMixed := Fld.ne F_TransactionCommitted_ordinal F_TransactionHeuristicMixed_ordinal (by decide)
  have ne_Committed_HeuristicHazard := Fld.ne F_TransactionCommitted_ordinal F_TransactionHeuristicHazard_ordinal (by decide)
  have ne_CommittedOnePhase_HeuristicRollback := Fld.ne F_TransactionCommittedOnePhase_ordinal F_TransactionHeuristicRollback_ordinal (by decide)
  have ne_CommittedOnePhase_HeuristicCommit := Fld.ne F_TransactionCommittedOnePhase_ordinal F_TransactionHeuristicCommit_ordinal (by decide)
  have ne_CommittedOnePhase_HeuristicMixed := Fld.ne F_TransactionCommittedOnePhase_ordinal F_TransactionHeuristicMixed_ordinal (by decide)
  have ne_CommittedOnePhase_HeuristicHazard := Fld.ne F_TransactionCommittedOnePhase_ordinal F_TransactionHeuristicHazard_ordinal (by decide)
  have ne_RollingBack_HeuristicRollback := Fld.ne F_TransactionRollingBack_ordinal F_TransactionHeuristicRollback_ordinal (by decide)
  have ne_RollingBack_HeuristicCommit := Fld.ne F_TransactionRollingBack_ordinal F_TransactionHeuristicCommit_ordinal (by decide)
  have ne_RollingBack_HeuristicMixed := Fld.ne F_TransactionRollingBack_ordinal F_TransactionHeuristicMixed_ordinal (by decide)
  have ne_RollingBack_HeuristicHazard := Fld.ne F_TransactionRollingBack_ordinal F_TransactionHeuristicHazard_ordinal (by decide)
  have ne_RolledBack_HeuristicRollback := Fld.ne F_TransactionRolledBack_ordinal F_TransactionHeuristicRollback_ordinal (by decide)
  have ne_RolledBack_HeuristicCommit := Fld.ne F_TransactionRolledBack_ordinal F_TransactionHeuristicCommit_ordinal (by decide)
  have ne_RolledBack_HeuristicMixed := Fld.ne F_TransactionRolledBack_ordinal F_TransactionHeuristicMixed_ordinal (by decide)
  have ne_RolledBack_HeuristicHazard := Fld.ne F_TransactionRolledBack_ordinal F_TransactionHeuristicHazard_ordinal (by decide)
  have ne_RollbackOnly_HeuristicRollback := Fld.ne F_TransactionRollbackOnly_ordinal F_TransactionHeuristicRollback_ordinal (by decide)
  have ne_RollbackOnly_HeuristicCommit := Fld.ne F_TransactionRollbackOnly_ordinal F_TransactionHeuristicCommit_ordinal (by decide)
  have ne_RollbackOnly_HeuristicMixed := Fld.ne F_TransactionRollbackOnly_ordinal F_TransactionHeuristicMixed_ordinal (by decide)
  have ne_RollbackOnly_HeuristicHazard := Fld.ne F_TransactionRollbackOnly_ordinal F_TransactionHeuristicHazard_ordinal (by decide)
  have ne_ReadOnly_HeuristicRollback := Fld.ne F_TransactionReadOnly_ordinal F_TransactionHeuristicRollback_ordinal (by decide)
  have ne_ReadOnly_HeuristicCommit := Fld.ne F_TransactionReadOnly_ordinal F_TransactionHeuristicCommit_ordinal (by decide)
  have ne_ReadOnly_HeuristicMixed := Fld.ne F_TransactionReadOnly_ordinal F_TransactionHeuristicMixed_ordinal (by decide)
  have ne_ReadOnly_HeuristicHazard := Fld.ne F_TransactionReadOnly_ordinal F_TransactionHeuristicHazard_ordinal (by decide)
  have ne_HeuristicRollback_HeuristicCommit := Fld.ne F_TransactionHeuristicRollback_ordinal F_TransactionHeuristicCommit_ordinal (by decide)
  have ne_HeuristicRollback_HeuristicMixed := Fld.ne F_TransactionHeuristicRollback_ordinal F_TransactionHeuristicMixed_ordinal (by decide)
  have ne_HeuristicRollback_HeuristicHazard := Fld.ne F_TransactionHeuristicRollback_ordinal F_TransactionHeuristicHazard_ordinal (by decide)
  have ne_HeuristicCommit_HeuristicRollback := Fld.ne F_TransactionHeuristicCommit_ordinal F_TransactionHeuristicRollback_ordinal (by decide)
  have ne_HeuristicCommit_HeuristicMixed := Fld.ne F_TransactionHeuristicCommit_ordinal F_TransactionHeuristicMixed_ordinal (by decide)
  have ne_HeuristicCommit_HeuristicHazard := Fld.ne F_TransactionHeuristicCommit_ordinal F_TransactionHeuristicHazard_ordinal (by decide)
  have ne_HeuristicMixed_HeuristicRollback := Fld.ne F_TransactionHeuristicMixed_ordinal F_TransactionHeuristicRollback_ordinal (by decide)
  have ne_HeuristicMixed_HeuristicCommit := Fld.ne F_TransactionHeuristicMixed_ordinal F_TransactionHeuristicCommit_ordinal (by decide)
  have ne_HeuristicMixed_HeuristicHazard := Fld.ne F_TransactionHeuristicMixed_ordinal F_TransactionHeuristicHazard_ordinal (by decide)
  have ne_HeuristicHazard_HeuristicRollback := Fld.ne F_TransactionHeuristicHazard_ordinal F_TransactionHeuristicRollback_ordinal (by decide)
  have ne_HeuristicHazard_HeuristicCommit := Fld.ne F_TransactionHeuristicHazard_ordinal F_TransactionHeuristicCommit_ordinal (by decide)
  have ne_HeuristicHazard_HeuristicMixed := Fld.ne F_TransactionHeuristicHazard_ordinal F_TransactionHeuristicMixed_ordinal (by decide)
  have ne_StatusUnknown_HeuristicRollback := Fld.ne F_TransactionStatusUnknown_ordinal F_TransactionHeuristicRollback_ordinal (by decide)
  have ne_StatusUnknown_HeuristicCommit := Fld.ne F_TransactionStatusUnknown_ordinal F_TransactionHeuristicCommit_ordinal (by decide)
  have ne_StatusUnknown_HeuristicMixed := Fld.ne F_TransactionStatusUnknown_ordinal F_TransactionHeuristicMixed_ordinal (by decide)
  have ne_StatusUnknown_HeuristicHazard := Fld.ne F_TransactionStatusUnknown_ordinal F_TransactionHeuristicHazard_ordinal (by decide)
  show own_Go p e below s (own_law_Q Z n0) 16 128 (s₁.setTop (entryFrame m #[(.int p1)] maxLocals))
  rw [own_law_ef]
  show own_Go p e below s _ _ _ (s₁.setTop (mkF m 0 #[.val (.int p1), .unset, .unset, .unset] []))
  refine own_st (fun _ k => XT.bipushV X0.here hx rfl (15 : Int32) (hb hby at_0) (by decide) k) ?_
  show own_Go p e below s _ _ _ (s₁.setTop (mkF m 2 #[.val (.int p1), .unset, .unset, .unset] [(.int (15 : Int32))]))
  obtain ⟨T13, h13, k13, X13, e13, E13, A13, O13, st13⟩ := newR X0 hx hZ hown (hw _ (List.mem_of_getElem? (i := 0) rfl)) (hw _ (List.mem_of_getElem? (i := 1) rfl)) e0 (g := (mkF m 2 #[.val (.int p1), .unset, .unset, .unset] [(.int (15 : Int32))])) rfl (hb hby at_2) rfl (by decide) (cap := 15) (by decide) (by decide) (by decide) (by decide)
  obtain ⟨b13, g13⟩ : ∃ z, z = h0.size := ⟨_, rfl⟩
  rw [← g13] at A13 st13
  refine own_st st13 ?_
  have Zs14 : n0 ≤ h13.size := Nat.le_trans Z0 E13.1
  have g15 : n0 ≤ b13 := Nat.le_trans Z0 (Nat.le_of_eq g13.symm)
  have F16 : Arv Z h13 b13 k13 (.object "com/example/concordat/concordat/TxStatus") (15 : Int32) [.null, .null, .null, .null, .null, .null, .null, .null, .null, .null, .null, .null, .null, .null, .null] .null := (Arv.new A13 (by decide)).pad (fun i => own_pad 15 _ i)
  show own_Go p e below s _ _ _ (T13.setTop (mkF m 5 #[.val (.int p1), .unset, .unset, .unset] [(.ref b13)]))
  refine own_st (fun _ k => XS.dup X13.here hx rfl (hb hby at_5) rfl rfl k) ?_
  show own_Go p e below s _ _ _ (T13.setTop (mkF m 6 #[.val (.int p1), .unset, .unset, .unset] [(.ref b13), (.ref b13)]))
  refine own_st (fun _ k => XT.iconstV X13.here hx rfl (0 : Int32) (hb hby at_6) (by decide) k) ?_
  show own_Go p e below s _ _ _ (T13.setTop (mkF m 7 #[.val (.int p1), .unset, .unset, .unset] [(.int (0 : Int32)), (.ref b13), (.ref b13)]))
  have O17 : Old Z n0 h13 := (O0.ext E13)
  have F18 : Sta Z h13 "com/example/concordat/concordat/TxStatus" "TransactionActive" "Lcom/example/concordat/concordat/TxStatus;" (.ref a_TransactionActive) := S_a_TransactionActive.ext O17.2
  obtain ⟨T19, X19, e19, st19⟩ := getS2 X13 hx hZ hown (host := "") (Or.inl (hw _ (List.mem_of_getElem? (i := 2) rfl))) Via.refl e13 F18 (g := (mkF m 7 #[.val (.int p1), .unset, .unset, .unset] [(.int (0 : Int32)), (.ref b13), (.ref b13)])) rfl (hb hby at_7)
  refine own_st st19 ?_
  show own_Go p e below s _ _ _ (T19.setTop (mkF m 10 #[.val (.int p1), .unset, .unset, .unset] [(.ref a_TransactionActive), (.int (0 : Int32)), (.ref b13), (.ref b13)]))
  obtain ⟨cl20, Ar20, kc20, S20, Nn20, H20, G20⟩ := id F16
  have hin20 : ¬ ((0 : Int32) < 0 ∨ cl20.slots.size ≤ ((0 : Int32) : Int32).toNatClampNeg) := inb_of S20 (by decide)
  have F21 : Exa Z h13 a_TransactionActive "com/example/concordat/concordat/TxStatus" := Ex_a_TransactionActive.ext O17.2
  obtain ⟨T20, h20, X20, e20, W20, st20⟩ := stR X19 hx hZ e19 Ar20 (j := (0 : Int32)) hin20 rfl (Sto.ofV Ar20 kc20 O13 (Ins.self F21)) (g := (mkF m 10 #[.val (.int p1), .unset, .unset, .unset] [(.ref a_TransactionActive), (.int (0 : Int32)), (.ref b13), (.ref b13)])) rfl rfl (hb hby at_10)
  refine own_st st20 ?_
  have N22 := Fr.snoc X20 N0 g15
  have F23 : Arv Z h20 b13 k13 (.object "com/example/concordat/concordat/TxStatus") (15 : Int32) [(.ref a_TransactionActive), .null, .null, .null, .null, .null, .null, .null, .null, .null, .null, .null, .null, .null, .null] .null := Arv.set Ar20 kc20 S20 Nn20 H20 G20 rfl W20 0 (by decide) (Nat.le_of_ble_eq_true rfl)
  have Zs24 : n0 ≤ h20.size := Nat.le_trans Zs14 (Nat.le_of_eq W20.size.symm)
  show own_Go p e below s _ _ _ (T20.setTop (mkF m 11 #[.val (.int p1), .unset, .unset, .unset] [(.ref b13)]))
  refine own_st (fun _ k => XS.dup X20.here hx rfl (hb hby at_11) rfl rfl k) ?_
  show own_Go p e below s _ _ _ (T20.setTop (mkF m 12 #[.val (.int p1), .unset, .unset, .unset] [(.ref b13), (.ref b13)]))
  refine own_st (fun _ k => XT.iconstV X20.here hx rfl (1 : Int32) (hb hby at_12) (by decide) k) ?_
  show own_Go p e below s _ _ _ (T20.setTop (mkF m 13 #[.val (.int p1), .unset, .unset, .unset] [(.int (1 : Int32)), (.ref b13), (.ref b13)]))
  have O25 : Old Z n0 h20 := (O17.wr W20 g15)
  have F26 : Sta Z h20 "com/example/concordat/concordat/TxStatus" "TransactionPreparing" "Lcom/example/concordat/concordat/TxStatus;" (.ref a_TransactionPreparing) := S_a_TransactionPreparing.ext O25.2
  obtain ⟨T27, X27, e27, st27⟩ := getS2 X20 hx hZ hown (host := "") (Or.inl (hw _ (List.mem_of_getElem? (i := 6) rfl))) Via.refl e20 F26 (g := (mkF m 13 #[.val (.int p1), .unset, .unset, .unset] [(.int (1 : Int32)), (.ref b13), (.ref b13)])) rfl (hb hby at_13)
  refine own_st st27 ?_
  show own_Go p e below s _ _ _ (T27.setTop (mkF m 16 #[.val (.int p1), .unset, .unset, .unset] [(.ref a_TransactionPreparing), (.int (1 : Int32)), (.ref b13), (.ref b13)]))
  obtain ⟨cl28, Ar28, kc28, S28, Nn28, H28, G28⟩ := id F23
  have hin28 : ¬ ((1 : Int32) < 0 ∨ cl28.slots.size ≤ ((1 : Int32) : Int32).toNatClampNeg) := inb_of S28 (by decide)
  have F29 : Exa Z h20 a_TransactionPreparing "com/example/concordat/concordat/TxStatus" := Ex_a_TransactionPreparing.ext O25.2
  obtain ⟨T28, h28, X28, e28, W28, st28⟩ := stR X27 hx hZ e27 Ar28 (j := (1 : Int32)) hin28 rfl (Sto.ofV Ar28 kc28 O13 (Ins.self F29)) (g := (mkF m 16 #[.val (.int p1), .unset, .unset, .unset] [(.ref a_TransactionPreparing), (.int (1 : Int32)), (.ref b13), (.ref b13)])) rfl rfl (hb hby at_16)
  refine own_st st28 ?_
  have N30 := Fr.snoc X28 N22 g15
  have F31 : Arv Z h28 b13 k13 (.object "com/example/concordat/concordat/TxStatus") (15 : Int32) [(.ref a_TransactionActive), (.ref a_TransactionPreparing), .null, .null, .null, .null, .null, .null, .null, .null, .null, .null, .null, .null, .null] .null := Arv.set Ar28 kc28 S28 Nn28 H28 G28 rfl W28 1 (by decide) (Nat.le_of_ble_eq_true rfl)
  have Zs32 : n0 ≤ h28.size := Nat.le_trans Zs24 (Nat.le_of_eq W28.size.symm)
  show own_Go p e below s _ _ _ (T28.setTop (mkF m 17 #[.val (.int p1), .unset, .unset, .unset] [(.ref b13)]))
  refine own_st (fun _ k => XS.dup X28.here hx rfl (hb hby at_17) rfl rfl k) ?_
  show own_Go p e below s _ _ _ (T28.setTop (mkF m 18 #[.val (.int p1), .unset, .unset, .unset] [(.ref b13), (.ref b13)]))
  refine own_st (fun _ k => XT.iconstV X28.here hx rfl (2 : Int32) (hb hby at_18) (by decide) k) ?_
  show own_Go p e below s _ _ _ (T28.setTop (mkF m 19 #[.val (.int p1), .unset, .unset, .unset] [(.int (2 : Int32)), (.ref b13), (.ref b13)]))
  have O33 : Old Z n0 h28 := (O25.wr W28 g15)
  have F34 : Sta Z h28 "com/example/concordat/concordat/TxStatus" "TransactionPrepared" "Lcom/example/concordat/concordat/TxStatus;" (.ref a_TransactionPrepared) := S_a_TransactionPrepared.ext O33.2
  obtain ⟨T35, X35, e35, st35⟩ := getS2 X28 hx hZ hown (host := "") (Or.inl (hw _ (List.mem_of_getElem? (i := 8) rfl))) Via.refl e28 F34 (g := (mkF m 19 #[.val (.int p1), .unset, .unset, .unset] [(.int (2 : Int32)), (.ref b13), (.ref b13)])) rfl (hb hby at_19)
  refine own_st st35 ?_
  show own_Go p e below s _ _ _ (T35.setTop (mkF m 22 #[.val (.int p1), .unset, .unset, .unset] [(.ref a_TransactionPrepared), (.int (2 : Int32)), (.ref b13), (.ref b13)]))
  obtain ⟨cl36, Ar36, kc36, S36, Nn36, H36, G36⟩ := id F31
  have hin36 : ¬ ((2 : Int32) < 0 ∨ cl36.slots.size ≤ ((2 : Int32) : Int32).toNatClampNeg) := inb_of S36 (by decide)
  have F37 : Exa Z h28 a_TransactionPrepared "com/example/concordat/concordat/TxStatus" := Ex_a_TransactionPrepared.ext O33.2
  obtain ⟨T36, h36, X36, e36, W36, st36⟩ := stR X35 hx hZ e35 Ar36 (j := (2 : Int32)) hin36 rfl (Sto.ofV Ar36 kc36 O13 (Ins.self F37)) (g := (mkF m 22 #[.val (.int p1), .unset, .unset, .unset] [(.ref a_TransactionPrepared), (.int (2 : Int32)), (.ref b13), (.ref b13)])) rfl rfl (hb hby at_22)
  refine own_st st36 ?_
  have N38 := Fr.snoc X36 N30 g15
  have F39 : Arv Z h36 b13 k13 (.object "com/example/concordat/concordat/TxStatus") (15 : Int32) [(.ref a_TransactionActive), (.ref a_TransactionPreparing), (.ref a_TransactionPrepared), .null, .null, .null, .null, .null, .null, .null, .null, .null, .null, .null, .null] .null := Arv.set Ar36 kc36 S36 Nn36 H36 G36 rfl W36 2 (by decide) (Nat.le_of_ble_eq_true rfl)
  have Zs40 : n0 ≤ h36.size := Nat.le_trans Zs32 (Nat.le_of_eq W36.size.symm)
  show own_Go p e below s _ _ _ (T36.setTop (mkF m 23 #[.val (.int p1), .unset, .unset, .unset] [(.ref b13)]))
  refine own_st (fun _ k => XS.dup X36.here hx rfl (hb hby at_23) rfl rfl k) ?_
  show own_Go p e below s _ _ _ (T36.setTop (mkF m 24 #[.val (.int p1), .unset, .unset, .unset] [(.ref b13), (.ref b13)]))
  refine own_st (fun _ k => XT.iconstV X36.here hx rfl (3 : Int32) (hb hby at_24) (by decide) k) ?_
  show own_Go p e below s _ _ _ (T36.setTop (mkF m 25 #[.val (.int p1), .unset, .unset, .unset] [(.int (3 : Int32)), (.ref b13), (.ref b13)]))
  have O41 : Old Z n0 h36 := (O33.wr W36 g15)
  have F42 : Sta Z h36 "com/example/concordat/concordat/TxStatus" "TransactionCommitting" "Lcom/example/concordat/concordat/TxStatus;" (.ref a_TransactionCommitting) := S_a_TransactionCommitting.ext O41.2
  obtain ⟨T43, X43, e43, st43⟩ := getS2 X36 hx hZ hown (host := "") (Or.inl (hw _ (List.mem_of_getElem? (i := 10) rfl))) Via.refl e36 F42 (g := (mkF m 25 #[.val (.int p1), .unset, .unset, .unset] [(.int (3 : Int32)), (.ref b13), (.ref b13)])) rfl (hb hby at_25)
  refine own_st st43 ?_
  show own_Go p e below s _ _ _ (T43.setTop (mkF m 28 #[.val (.int p1), .unset, .unset, .unset] [(.ref a_TransactionCommitting), (.int (3 : Int32)), (.ref b13), (.ref b13)]))
  obtain ⟨cl44, Ar44, kc44, S44, Nn44, H44, G44⟩ := id F39
  have hin44 : ¬ ((3 : Int32) < 0 ∨ cl44.slots.size ≤ ((3 : Int32) : Int32).toNatClampNeg) := inb_of S44 (by decide)
  have F45 : Exa Z h36 a_TransactionCommitting "com/example/concordat/concordat/TxStatus" := Ex_a_TransactionCommitting.ext O41.2
  obtain ⟨T44, h44, X44, e44, W44, st44⟩ := stR X43 hx hZ e43 Ar44 (j := (3 : Int32)) hin44 rfl (Sto.ofV Ar44 kc44 O13 (Ins.self F45)) (g := (mkF m 28 #[.val (.int p1), .unset, .unset, .unset] [(.ref a_TransactionCommitting), (.int (3 : Int32)), (.ref b13), (.ref b13)])) rfl rfl (hb hby at_28)
  refine own_st st44 ?_
  have N46 := Fr.snoc X44 N38 g15
  have F47 : Arv Z h44 b13 k13 (.object "com/example/concordat/concordat/TxStatus") (15 : Int32) [(.ref a_TransactionActive), (.ref a_TransactionPreparing), (.ref a_TransactionPrepared), (.ref a_TransactionCommitting), .null, .null, .null, .null, .null, .null, .null, .null, .null, .null, .null] .null := Arv.set Ar44 kc44 S44 Nn44 H44 G44 rfl W44 3 (by decide) (Nat.le_of_ble_eq_true rfl)
  have Zs48 : n0 ≤ h44.size := Nat.le_trans Zs40 (Nat.le_of_eq W44.size.symm)
  show own_Go p e below s _ _ _ (T44.setTop (mkF m 29 #[.val (.int p1), .unset, .unset, .unset] [(.ref b13)]))
  refine own_st (fun _ k => XS.dup X44.here hx rfl (hb hby at_29) rfl rfl k) ?_
  show own_Go p e below s _ _ _ (T44.setTop (mkF m 30 #[.val (.int p1), .unset, .unset, .unset] [(.ref b13), (.ref b13)]))
  refine own_st (fun _ k => XT.iconstV X44.here hx rfl (4 : Int32) (hb hby at_30) (by decide) k) ?_
  show own_Go p e below s _ _ _ (T44.setTop (mkF m 31 #[.val (.int p1), .unset, .unset, .unset] [(.int (4 : Int32)), (.ref b13), (.ref b13)]))
  have O49 : Old Z n0 h44 := (O41.wr W44 g15)
  have F50 : Sta Z h44 "com/example/concordat/concordat/TxStatus" "TransactionCommitted" "Lcom/example/concordat/concordat/TxStatus;" (.ref a_TransactionCommitted) := S_a_TransactionCommitted.ext O49.2
  obtain ⟨T51, X51, e51, st51⟩ := getS2 X44 hx hZ hown (host := "") (Or.inl (hw _ (List.mem_of_getElem? (i := 12) rfl))) Via.refl e44 F50 (g := (mkF m 31 #[.val (.int p1), .unset, .unset, .unset] [(.int (4 : Int32)), (.ref b13), (.ref b13)])) rfl (hb hby at_31)
  refine own_st st51 ?_
  show own_Go p e below s _ _ _ (T51.setTop (mkF m 34 #[.val (.int p1), .unset, .unset, .unset] [(.ref a_TransactionCommitted), (.int (4 : Int32)), (.ref b13), (.ref b13)]))
  obtain ⟨cl52, Ar52, kc52, S52, Nn52, H52, G52⟩ := id F47
  have hin52 : ¬ ((4 : Int32) < 0 ∨ cl52.slots.size ≤ ((4 : Int32) : Int32).toNatClampNeg) := inb_of S52 (by decide)
  have F53 : Exa Z h44 a_TransactionCommitted "com/example/concordat/concordat/TxStatus" := Ex_a_TransactionCommitted.ext O49.2
  obtain ⟨T52, h52, X52, e52, W52, st52⟩ := stR X51 hx hZ e51 Ar52 (j := (4 : Int32)) hin52 rfl (Sto.ofV Ar52 kc52 O13 (Ins.self F53)) (g := (mkF m 34 #[.val (.int p1), .unset, .unset, .unset] [(.ref a_TransactionCommitted), (.int (4 : Int32)), (.ref b13), (.ref b13)])) rfl rfl (hb hby at_34)
  refine own_st st52 ?_
  have N54 := Fr.snoc X52 N46 g15
  have F55 : Arv Z h52 b13 k13 (.object "com/example/concordat/concordat/TxStatus") (15 : Int32) [(.ref a_TransactionActive), (.ref a_TransactionPreparing), (.ref a_TransactionPrepared), (.ref a_TransactionCommitting), (.ref a_TransactionCommitted), .null, .null, .null, .null, .null, .null, .null, .null, .null, .null] .null := Arv.set Ar52 kc52 S52 Nn52 H52 G52 rfl W52 4 (by decide) (Nat.le_of_ble_eq_true rfl)
  have Zs56 : n0 ≤ h52.size := Nat.le_trans Zs48 (Nat.le_of_eq W52.size.symm)
  show own_Go p e below s _ _ _ (T52.setTop (mkF m 35 #[.val (.int p1), .unset, .unset, .unset] [(.ref b13)]))
  refine own_st (fun _ k => XS.dup X52.here hx rfl (hb hby at_35) rfl rfl k) ?_
  show own_Go p e below s _ _ _ (T52.setTop (mkF m 36 #[.val (.int p1), .unset, .unset, .unset] [(.ref b13), (.ref b13)]))
  refine own_st (fun _ k => XT.iconstV X52.here hx rfl (5 : Int32) (hb hby at_36) (by decide) k) ?_
  show own_Go p e below s _ _ _ (T52.setTop (mkF m 37 #[.val (.int p1), .unset, .unset, .unset] [(.int (5 : Int32)), (.ref b13), (.ref b13)]))
  have O57 : Old Z n0 h52 := (O49.wr W52 g15)
  have F58 : Sta Z h52 "com/example/concordat/concordat/TxStatus" "TransactionCommittedOnePhase" "Lcom/example/concordat/concordat/TxStatus;" (.ref a_TransactionCommittedOnePhase) := S_a_TransactionCommittedOnePhase.ext O57.2
  obtain ⟨T59, X59, e59, st59⟩ := getS2 X52 hx hZ hown (host := "") (Or.inl (hw _ (List.mem_of_getElem? (i := 14) rfl))) Via.refl e52 F58 (g := (mkF m 37 #[.val (.int p1), .unset, .unset, .unset] [(.int (5 : Int32)), (.ref b13), (.ref b13)])) rfl (hb hby at_37)
  refine own_st st59 ?_
  show own_Go p e below s _ _ _ (T59.setTop (mkF m 40 #[.val (.int p1), .unset, .unset, .unset] [(.ref a_TransactionCommittedOnePhase), (.int (5 : Int32)), (.ref b13), (.ref b13)]))
  obtain ⟨cl60, Ar60, kc60, S60, Nn60, H60, G60⟩ := id F55
  have hin60 : ¬ ((5 : Int32) < 0 ∨ cl60.slots.size ≤ ((5 : Int32) : Int32).toNatClampNeg) := inb_of S60 (by decide)
  have F61 : Exa Z h52 a_TransactionCommittedOnePhase "com/example/concordat/concordat/TxStatus" := Ex_a_TransactionCommittedOnePhase.ext O57.2
  obtain ⟨T60, h60, X60, e60, W60, st60⟩ := stR X59 hx hZ e59 Ar60 (j := (5 : Int32)) hin60 rfl (Sto.ofV Ar60 kc60 O13 (Ins.self F61)) (g := (mkF m 40 #[.val (.int p1), .unset, .unset, .unset] [(.ref a_TransactionCommittedOnePhase), (.int (5 : Int32)), (.ref b13), (.ref b13)])) rfl rfl (hb hby at_40)
  refine own_st st60 ?_
  have N62 := Fr.snoc X60 N54 g15
  have F63 : Arv Z h60 b13 k13 (.object "com/example/concordat/concordat/TxStatus") (15 : Int32) [(.ref a_TransactionActive), (.ref a_TransactionPreparing), (.ref a_TransactionPrepared), (.ref a_TransactionCommitting), (.ref a_TransactionCommitted), (.ref a_TransactionCommittedOnePhase), .null, .null, .null, .null, .null, .null, .null, .null, .null] .null := Arv.set Ar60 kc60 S60 Nn60 H60 G60 rfl W60 5 (by decide) (Nat.le_of_ble_eq_true rfl)
  have Zs64 : n0 ≤ h60.size := Nat.le_trans Zs56 (Nat.le_of_eq W60.size.symm)
  show own_Go p e below s _ _ _ (T60.setTop (mkF m 41 #[.val (.int p1), .unset, .unset, .unset] [(.ref b13)]))
  refine own_st (fun _ k => XS.dup X60.here hx rfl (hb hby at_41) rfl rfl k) ?_
  show own_Go p e below s _ _ _ (T60.setTop (mkF m 42 #[.val (.int p1), .unset, .unset, .unset] [(.ref b13), (.ref b13)]))
  refine own_st (fun _ k => XT.bipushV X60.here hx rfl (6 : Int32) (hb hby at_42) (by decide) k) ?_
  show own_Go p e below s _ _ _ (T60.setTop (mkF m 44 #[.val (.int p1), .unset, .unset, .unset] [(.int (6 : Int32)), (.ref b13), (.ref b13)]))
  have O65 : Old Z n0 h60 := (O57.wr W60 g15)
  have F66 : Sta Z h60 "com/example/concordat/concordat/TxStatus" "TransactionRollingBack" "Lcom/example/concordat/concordat/TxStatus;" (.ref a_TransactionRollingBack) := S_a_TransactionRollingBack.ext O65.2
  obtain ⟨T67, X67, e67, st67⟩ := getS2 X60 hx hZ hown (host := "") (Or.inl (hw _ (List.mem_of_getElem? (i := 16) rfl))) Via.refl e60 F66 (g := (mkF m 44 #[.val (.int p1), .unset, .unset, .unset] [(.int (6 : Int32)), (.ref b13), (.ref b13)])) rfl (hb hby at_44)
  refine own_st st67 ?_
  show own_Go p e below s _ _ _ (T67.setTop (mkF m 47 #[.val (.int p1), .unset, .unset, .unset] [(.ref a_TransactionRollingBack), (.int (6 : Int32)), (.ref b13), (.ref b13)]))
  obtain ⟨cl68, Ar68, kc68, S68, Nn68, H68, G68⟩ := id F63
  have hin68 : ¬ ((6 : Int32) < 0 ∨ cl68.slots.size ≤ ((6 : Int32) : Int32).toNatClampNeg) := inb_of S68 (by decide)
  have F69 : Exa Z h60 a_TransactionRollingBack "com/example/concordat/concordat/TxStatus" := Ex_a_TransactionRollingBack.ext O65.2
  obtain ⟨T68, h68, X68, e68, W68, st68⟩ := stR X67 hx hZ e67 Ar68 (j := (6 : Int32)) hin68 rfl (Sto.ofV Ar68 kc68 O13 (Ins.self F69)) (g := (mkF m 47 #[.val (.int p1), .unset, .unset, .unset] [(.ref a_TransactionRollingBack), (.int (6 : Int32)), (.ref b13), (.ref b13)])) rfl rfl (hb hby at_47)
  refine own_st st68 ?_
  have N70 := Fr.snoc X68 N62 g15
  have F71 : Arv Z h68 b13 k13 (.object "com/example/concordat/concordat/TxStatus") (15 : Int32) [(.ref a_TransactionActive), (.ref a_TransactionPreparing), (.ref a_TransactionPrepared), (.ref a_TransactionCommitting), (.ref a_TransactionCommitted), (.ref a_TransactionCommittedOnePhase), (.ref a_TransactionRollingBack), .null, .null, .null, .null, .null, .null, .null, .null] .null := Arv.set Ar68 kc68 S68 Nn68 H68 G68 rfl W68 6 (by decide) (Nat.le_of_ble_eq_true rfl)
  have Zs72 : n0 ≤ h68.size := Nat.le_trans Zs64 (Nat.le_of_eq W68.size.symm)
  show own_Go p e below s _ _ _ (T68.setTop (mkF m 48 #[.val (.int p1), .unset, .unset, .unset] [(.ref b13)]))
  refine own_st (fun _ k => XS.dup X68.here hx rfl (hb hby at_48) rfl rfl k) ?_
  show own_Go p e below s _ _ _ (T68.setTop (mkF m 49 #[.val (.int p1), .unset, .unset, .unset] [(.ref b13), (.ref b13)]))
  refine own_st (fun _ k => XT.bipushV X68.here hx rfl (7 : Int32) (hb hby at_49) (by decide) k) ?_
  show own_Go p e below s _ _ _ (T68.setTop (mkF m 51 #[.val (.int p1), .unset, .unset, .unset] [(.int (7 : Int32)), (.ref b13), (.ref b13)]))
  have O73 : Old Z n0 h68 := (O65.wr W68 g15)
  have F74 : Sta Z h68 "com/example/concordat/concordat/TxStatus" "TransactionRolledBack" "Lcom/example/concordat/concordat/TxStatus;" (.ref a_TransactionRolledBack) := S_a_TransactionRolledBack.ext O73.2
  obtain ⟨T75, X75, e75, st75⟩ := getS2 X68 hx hZ hown (host := "") (Or.inl (hw _ (List.mem_of_getElem? (i := 18) rfl))) Via.refl e68 F74 (g := (mkF m 51 #[.val (.int p1), .unset, .unset, .unset] [(.int (7 : Int32)), (.ref b13), (.ref b13)])) rfl (hb hby at_51)
  refine own_st st75 ?_
  show own_Go p e below s _ _ _ (T75.setTop (mkF m 54 #[.val (.int p1), .unset, .unset, .unset] [(.ref a_TransactionRolledBack), (.int (7 : Int32)), (.ref b13), (.ref b13)]))
  obtain ⟨cl76, Ar76, kc76, S76, Nn76, H76, G76⟩ := id F71
  have hin76 : ¬ ((7 : Int32) < 0 ∨ cl76.slots.size ≤ ((7 : Int32) : Int32).toNatClampNeg) := inb_of S76 (by decide)
  have F77 : Exa Z h68 a_TransactionRolledBack "com/example/concordat/concordat/TxStatus" := Ex_a_TransactionRolledBack.ext O73.2
  obtain ⟨T76, h76, X76, e76, W76, st76⟩ := stR X75 hx hZ e75 Ar76 (j := (7 : Int32)) hin76 rfl (Sto.ofV Ar76 kc76 O13 (Ins.self F77)) (g := (mkF m 54 #[.val (.int p1), .unset, .unset, .unset] [(.ref a_TransactionRolledBack), (.int (7 : Int32)), (.ref b13), (.ref b13)])) rfl rfl (hb hby at_54)
  refine own_st st76 ?_
  have N78 := Fr.snoc X76 N70 g15
  have F79 : Arv Z h76 b13 k13 (.object "com/example/concordat/concordat/TxStatus") (15 : Int32) [(.ref a_TransactionActive), (.ref a_TransactionPreparing), (.ref a_TransactionPrepared), (.ref a_TransactionCommitting), (.ref a_TransactionCommitted), (.ref a_TransactionCommittedOnePhase), (.ref a_TransactionRollingBack), (.ref a_TransactionRolledBack), .null, .null, .null, .null, .null, .null, .null] .null := Arv.set Ar76 kc76 S76 Nn76 H76 G76 rfl W76 7 (by decide) (Nat.le_of_ble_eq_true rfl)
  have Zs80 : n0 ≤ h76.size := Nat.le_trans Zs72 (Nat.le_of_eq W76.size.symm)
  show own_Go p e below s _ _ _ (T76.setTop (mkF m 55 #[.val (.int p1), .unset, .unset, .unset] [(.ref b13)]))
  refine own_st (fun _ k => XS.dup X76.here hx rfl (hb hby at_55) rfl rfl k) ?_
  show own_Go p e below s _ _ _ (T76.setTop (mkF m 56 #[.val (.int p1), .unset, .unset, .unset] [(.ref b13), (.ref b13)]))
  refine own_st (fun _ k => XT.bipushV X76.here hx rfl (8 : Int32) (hb hby at_56) (by decide) k) ?_
  show own_Go p e below s _ _ _ (T76.setTop (mkF m 58 #[.val (.int p1), .unset, .unset, .unset] [(.int (8 : Int32)), (.ref b13), (.ref b13)]))
  have O81 : Old Z n0 h76 := (O73.wr W76 g15)
  have F82 : Sta Z h76 "com/example/concordat/concordat/TxStatus" "TransactionRollbackOnly" "Lcom/example/concordat/concordat/TxStatus;" (.ref a_TransactionRollbackOnly) := S_a_TransactionRollbackOnly.ext O81.2
  obtain ⟨T83, X83, e83, st83⟩ := getS2 X76 hx hZ hown (host := "") (Or.inl (hw _ (List.mem_of_getElem? (i := 20) rfl))) Via.refl e76 F82 (g := (mkF m 58 #[.val (.int p1), .unset, .unset, .unset] [(.int (8 : Int32)), (.ref b13), (.ref b13)])) rfl (hb hby at_58)
  refine own_st st83 ?_
  show own_Go p e below s _ _ _ (T83.setTop (mkF m 61 #[.val (.int p1), .unset, .unset, .unset] [(.ref a_TransactionRollbackOnly), (.int (8 : Int32)), (.ref b13), (.ref b13)]))
  obtain ⟨cl84, Ar84, kc84, S84, Nn84, H84, G84⟩ := id F79
  have hin84 : ¬ ((8 : Int32) < 0 ∨ cl84.slots.size ≤ ((8 : Int32) : Int32).toNatClampNeg) := inb_of S84 (by decide)
  have F85 : Exa Z h76 a_TransactionRollbackOnly "com/example/concordat/concordat/TxStatus" := Ex_a_TransactionRollbackOnly.ext O81.2
  obtain ⟨T84, h84, X84, e84, W84, st84⟩ := stR X83 hx hZ e83 Ar84 (j := (8 : Int32)) hin84 rfl (Sto.ofV Ar84 kc84 O13 (Ins.self F85)) (g := (mkF m 61 #[.val (.int p1), .unset, .unset, .unset] [(.ref a_TransactionRollbackOnly), (.int (8 : Int32)), (.ref b13), (.ref b13)])) rfl rfl (hb hby at_61)
  refine own_st st84 ?_
  have N86 := Fr.snoc X84 N78 g15
  have F87 : Arv Z h84 b13 k13 (.object "com/example/concordat/concordat/TxStatus") (15 : Int32) [(.ref a_TransactionActive), (.ref a_TransactionPreparing), (.ref a_TransactionPrepared), (.ref a_TransactionCommitting), (.ref a_TransactionCommitted), (.ref a_TransactionCommittedOnePhase), (.ref a_TransactionRollingBack), (.ref a_TransactionRolledBack), (.ref a_TransactionRollbackOnly), .null, .null, .null, .null, .null, .null] .null := Arv.set Ar84 kc84 S84 Nn84 H84 G84 rfl W84 8 (by decide) (Nat.le_of_ble_eq_true rfl)
  have Zs88 : n0 ≤ h84.size := Nat.le_trans Zs80 (Nat.le_of_eq W84.size.symm)
  show own_Go p e below s _ _ _ (T84.setTop (mkF m 62 #[.val (.int p1), .unset, .unset, .unset] [(.ref b13)]))
  refine own_st (fun _ k => XS.dup X84.here hx rfl (hb hby at_62) rfl rfl k) ?_
  show own_Go p e below s _ _ _ (T84.setTop (mkF m 63 #[.val (.int p1), .unset, .unset, .unset] [(.ref b13), (.ref b13)]))
  refine own_st (fun _ k => XT.bipushV X84.here hx rfl (9 : Int32) (hb hby at_63) (by decide) k) ?_
  show own_Go p e below s _ _ _ (T84.setTop (mkF m 65 #[.val (.int p1), .unset, .unset, .unset] [(.int (9 : Int32)), (.ref b13), (.ref b13)]))
  have O89 : Old Z n0 h84 := (O81.wr W84 g15)
  have F90 : Sta Z h84 "com/example/concordat/concordat/TxStatus" "TransactionReadOnly" "Lcom/example/concordat/concordat/TxStatus;" (.ref a_TransactionReadOnly) := S_a_TransactionReadOnly.ext O89.2
  obtain ⟨T91, X91, e91, st91⟩ := getS2 X84 hx hZ hown (host := "") (Or.inl (hw _ (List.mem_of_getElem? (i := 22) rfl))) Via.refl e84 F90 (g := (mkF m 65 #[.val (.int p1), .unset, .unset, .unset] [(.int (9 : Int32)), (.ref b13), (.ref b13)])) rfl (hb hby at_65)
  refine own_st st91 ?_
  show own_Go p e below s _ _ _ (T91.setTop (mkF m 68 #[.val (.int p1), .unset, .unset, .unset] [(.ref a_TransactionReadOnly), (.int (9 : Int32)), (.ref b13), (.ref b13)]))
  obtain ⟨cl92, Ar92, kc92, S92, Nn92, H92, G92⟩ := id F87
  have hin92 : ¬ ((9 : Int32) < 0 ∨ cl92.slots.size ≤ ((9 : Int32) : Int32).toNatClampNeg) := inb_of S92 (by decide)
  have F93 : Exa Z h84 a_TransactionReadOnly "com/example/concordat/concordat/TxStatus" := Ex_a_TransactionReadOnly.ext O89.2
  obtain ⟨T92, h92, X92, e92, W92, st92⟩ := stR X91 hx hZ e91 Ar92 (j := (9 : Int32)) hin92 rfl (Sto.ofV Ar92 kc92 O13 (Ins.self F93)) (g := (mkF m 68 #[.val (.int p1), .unset, .unset, .unset] [(.ref a_TransactionReadOnly), (.int (9 : Int32)), (.ref b13), (.ref b13)])) rfl rfl (hb hby at_68)
  refine own_st st92 ?_
  have N94 := Fr.snoc X92 N86 g15
  have F95 : Arv Z h92 b13 k13 (.object "com/example/concordat/concordat/TxStatus") (15 : Int32) [(.ref a_TransactionActive), (.ref a_TransactionPreparing), (.ref a_TransactionPrepared), (.ref a_TransactionCommitting), (.ref a_TransactionCommitted), (.ref a_TransactionCommittedOnePhase), (.ref a_TransactionRollingBack), (.ref a_TransactionRolledBack), (.ref a_TransactionRollbackOnly), (.ref a_TransactionReadOnly), .null, .null, .null, .null, .null] .null := Arv.set Ar92 kc92 S92 Nn92 H92 G92 rfl W92 9 (by decide) (Nat.le_of_ble_eq_true rfl)
  have Zs96 : n0 ≤ h92.size := Nat.le_trans Zs88 (Nat.le_of_eq W92.size.symm)
  show own_Go p e below s _ _ _ (T92.setTop (mkF m 69 #[.val (.int p1), .unset, .unset, .unset] [(.ref b13)]))
  refine own_st (fun _ k => XS.dup X92.here hx rfl (hb hby at_69) rfl rfl k) ?_
  show own_Go p e below s _ _ _ (T92.setTop (mkF m 70 #[.val (.int p1), .unset, .unset, .unset] [(.ref b13), (.ref b13)]))
  refine own_st (fun _ k => XT.bipushV X92.here hx rfl (10 : Int32) (hb hby at_70) (by decide) k) ?_
  show own_Go p e below s _ _ _ (T92.setTop (mkF m 72 #[.val (.int p1), .unset, .unset, .unset] [(.int (10 : Int32)), (.ref b13), (.ref b13)]))
  have O97 : Old Z n0 h92 := (O89.wr W92 g15)
  have F98 : Sta Z h92 "com/example/concordat/concordat/TxStatus" "TransactionHeuristicRollback" "Lcom/example/concordat/concordat/TxStatus;" (.ref a_TransactionHeuristicRollback) := S_a_TransactionHeuristicRollback.ext O97.2
  obtain ⟨T99, X99, e99, st99⟩ := getS2 X92 hx hZ hown (host := "") (Or.inl (hw _ (List.mem_of_getElem? (i := 24) rfl))) Via.refl e92 F98 (g := (mkF m 72 #[.val (.int p1), .unset, .unset, .unset] [(.int (10 : Int32)), (.ref b13), (.ref b13)])) rfl (hb hby at_72)
  refine own_st st99 ?_
  show own_Go p e below s _ _ _ (T99.setTop (mkF m 75 #[.val (.int p1), .unset, .unset, .unset] [(.ref a_TransactionHeuristicRollback), (.int (10 : Int32)), (.ref b13), (.ref b13)]))
  obtain ⟨cl100, Ar100, kc100, S100, Nn100, H100, G100⟩ := id F95
  have hin100 : ¬ ((10 : Int32) < 0 ∨ cl100.slots.size ≤ ((10 : Int32) : Int32).toNatClampNeg) := inb_of S100 (by decide)
  have F101 : Exa Z h92 a_TransactionHeuristicRollback "com/example/concordat/concordat/TxStatus" := Ex_a_TransactionHeuristicRollback.ext O97.2
  obtain ⟨T100, h100, X100, e100, W100, st100⟩ := stR X99 hx hZ e99 Ar100 (j := (10 : Int32)) hin100 rfl (Sto.ofV Ar100 kc100 O13 (Ins.self F101)) (g := (mkF m 75 #[.val (.int p1), .unset, .unset, .unset] [(.ref a_TransactionHeuristicRollback), (.int (10 : Int32)), (.ref b13), (.ref b13)])) rfl rfl (hb hby at_75)
  refine own_st st100 ?_
  have N102 := Fr.snoc X100 N94 g15
  have F103 : Arv Z h100 b13 k13 (.object "com/example/concordat/concordat/TxStatus") (15 : Int32) [(.ref a_TransactionActive), (.ref a_TransactionPreparing), (.ref a_TransactionPrepared), (.ref a_TransactionCommitting), (.ref a_TransactionCommitted), (.ref a_TransactionCommittedOnePhase), (.ref a_TransactionRollingBack), (.ref a_TransactionRolledBack), (.ref a_TransactionRollbackOnly), (.ref a_TransactionReadOnly), (.ref a_TransactionHeuristicRollback), .null, .null, .null, .null] .null := Arv.set Ar100 kc100 S100 Nn100 H100 G100 rfl W100 10 (by decide) (Nat.le_of_ble_eq_true rfl)
  have Zs104 : n0 ≤ h100.size := Nat.le_trans Zs96 (Nat.le_of_eq W100.size.symm)
  show own_Go p e below s _ _ _ (T100.setTop (mkF m 76 #[.val (.int p1), .unset, .unset, .unset] [(.ref b13)]))
  refine own_st (fun _ k => XS.dup X100.here hx rfl (hb hby at_76) rfl rfl k) ?_
  show own_Go p e below s _ _ _ (T100.setTop (mkF m 77 #[.val (.int p1), .unset, .unset, .unset] [(.ref b13), (.ref b13)]))
  refine own_st (fun _ k => XT.bipushV X100.here hx rfl (11 : Int32) (hb hby at_77) (by decide) k) ?_
  show own_Go p e below s _ _ _ (T100.setTop (mkF m 79 #[.val (.int p1), .unset, .unset, .unset] [(.int (11 : Int32)), (.ref b13), (.ref b13)]))
  have O105 : Old Z n0 h100 := (O97.wr W100 g15)
  have F106 : Sta Z h100 "com/example/concordat/concordat/TxStatus" "TransactionHeuristicCommit" "Lcom/example/concordat/concordat/TxStatus;" (.ref a_TransactionHeuristicCommit) := S_a_TransactionHeuristicCommit.ext O105.2
  obtain ⟨T107, X107, e107, st107⟩ := getS2 X100 hx hZ hown (host := "") (Or.inl (hw _ (List.mem_of_getElem? (i := 26) rfl))) Via.refl e100 F106 (g := (mkF m 79 #[.val (.int p1), .unset, .unset, .unset] [(.int (11 : Int32)), (.ref b13), (.ref b13)])) rfl (hb hby at_79)
  refine own_st st107 ?_
  show own_Go p e below s _ _ _ (T107.setTop (mkF m 82 #[.val (.int p1), .unset, .unset, .unset] [(.ref a_TransactionHeuristicCommit), (.int (11 : Int32)), (.ref b13), (.ref b13)]))
  obtain ⟨cl108, Ar108, kc108, S108, Nn108, H108, G108⟩ := id F103
  have hin108 : ¬ ((11 : Int32) < 0 ∨ cl108.slots.size ≤ ((11 : Int32) : Int32).toNatClampNeg) := inb_of S108 (by decide)
  have F109 : Exa Z h100 a_TransactionHeuristicCommit "com/example/concordat/concordat/TxStatus" := Ex_a_TransactionHeuristicCommit.ext O105.2
  obtain ⟨T108, h108, X108, e108, W108, st108⟩ := stR X107 hx hZ e107 Ar108 (j := (11 : Int32)) hin108 rfl (Sto.ofV Ar108 kc108 O13 (Ins.self F109)) (g := (mkF m 82 #[.val (.int p1), .unset, .unset, .unset] [(.ref a_TransactionHeuristicCommit), (.int (11 : Int32)), (.ref b13), (.ref b13)])) rfl rfl (hb hby at_82)
  refine own_st st108 ?_
  have N110 := Fr.snoc X108 N102 g15
  have F111 : Arv Z h108 b13 k13 (.object "com/example/concordat/concordat/TxStatus") (15 : Int32) [(.ref a_TransactionActive), (.ref a_TransactionPreparing), (.ref a_TransactionPrepared), (.ref a_TransactionCommitting), (.ref a_TransactionCommitted), (.ref a_TransactionCommittedOnePhase), (.ref a_TransactionRollingBack), (.ref a_TransactionRolledBack), (.ref a_TransactionRollbackOnly), (.ref a_TransactionReadOnly), (.ref a_TransactionHeuristicRollback), (.ref a_TransactionHeuristicCommit), .null, .null, .null] .null := Arv.set Ar108 kc108 S108 Nn108 H108 G108 rfl W108 11 (by decide) (Nat.le_of_ble_eq_true rfl)
  have Zs112 : n0 ≤ h108.size := Nat.le_trans Zs104 (Nat.le_of_eq W108.size.symm)
  show own_Go p e below s _ _ _ (T108.setTop (mkF m 83 #[.val (.int p1), .unset, .unset, .unset] [(.ref b13)]))
  refine own_st (fun _ k => XS.dup X108.here hx rfl (hb hby at_83) rfl rfl k) ?_
  show own_Go p e below s _ _ _ (T108.setTop (mkF m 84 #[.val (.int p1), .unset, .unset, .unset] [(.ref b13), (.ref b13)]))
  refine own_st (fun _ k => XT.bipushV X108.here hx rfl (12 : Int32) (hb hby at_84) (by decide) k) ?_
  show own_Go p e below s _ _ _ (T108.setTop (mkF m 86 #[.val (.int p1), .unset, .unset, .unset] [(.int (12 : Int32)), (.ref b13), (.ref b13)]))
  have O113 : Old Z n0 h108 := (O105.wr W108 g15)
  have F114 : Sta Z h108 "com/example/concordat/concordat/TxStatus" "TransactionHeuristicMixed" "Lcom/example/concordat/concordat/TxStatus;" (.ref a_TransactionHeuristicMixed) := S_a_TransactionHeuristicMixed.ext O113.2
  obtain ⟨T115, X115, e115, st115⟩ := getS2 X108 hx hZ hown (host := "") (Or.inl (hw _ (List.mem_of_getElem? (i := 28) rfl))) Via.refl e108 F114 (g := (mkF m 86 #[.val (.int p1), .unset, .unset, .unset] [(.int (12 : Int32)), (.ref b13), (.ref b13)])) rfl (hb hby at_86)
  refine own_st st115 ?_
  show own_Go p e below s _ _ _ (T115.setTop (mkF m 89 #[.val (.int p1), .unset, .unset, .unset] [(.ref a_TransactionHeuristicMixed), (.int (12 : Int32)), (.ref b13), (.ref b13)]))
  obtain ⟨cl116, Ar116, kc116, S116, Nn116, H116, G116⟩ := id F111
  have hin116 : ¬ ((12 : Int32) < 0 ∨ cl116.slots.size ≤ ((12 : Int32) : Int32).toNatClampNeg) := inb_of S116 (by decide)
  have F117 : Exa Z h108 a_TransactionHeuristicMixed "com/example/concordat/concordat/TxStatus" := Ex_a_TransactionHeuristicMixed.ext O113.2
  obtain ⟨T116, h116, X116, e116, W116, st116⟩ := stR X115 hx hZ e115 Ar116 (j := (12 : Int32)) hin116 rfl (Sto.ofV Ar116 kc116 O13 (Ins.self F117)) (g := (mkF m 89 #[.val (.int p1), .unset, .unset, .unset] [(.ref a_TransactionHeuristicMixed), (.int (12 : Int32)), (.ref b13), (.ref b13)])) rfl rfl (hb hby at_89)
  refine own_st st116 ?_
  have N118 := Fr.snoc X116 N110 g15
  have F119 : Arv Z h116 b13 k13 (.object "com/example/concordat/concordat/TxStatus") (15 : Int32) [(.ref a_TransactionActive), (.ref a_TransactionPreparing), (.ref a_TransactionPrepared), (.ref a_TransactionCommitting), (.ref a_TransactionCommitted), (.ref a_TransactionCommittedOnePhase), (.ref a_TransactionRollingBack), (.ref a_TransactionRolledBack), (.ref a_TransactionRollbackOnly), (.ref a_TransactionReadOnly), (.ref a_TransactionHeuristicRollback), (.ref a_TransactionHeuristicCommit), (.ref a_TransactionHeuristicMixed), .null, .null] .null := Arv.set Ar116 kc116 S116 Nn116 H116 G116 rfl W116 12 (by decide) (Nat.le_of_ble_eq_true rfl)
  have Zs120 : n0 ≤ h116.size := Nat.le_trans Zs112 (Nat.le_of_eq W116.size.symm)
  show own_Go p e below s _ _ _ (T116.setTop (mkF m 90 #[.val (.int p1), .unset, .unset, .unset] [(.ref b13)]))
  refine own_st (fun _ k => XS.dup X116.here hx rfl (hb hby at_90) rfl rfl k) ?_
  show own_Go p e below s _ _ _ (T116.setTop (mkF m 91 #[.val (.int p1), .unset, .unset, .unset] [(.ref b13), (.ref b13)]))
  refine own_st (fun _ k => XT.bipushV X116.here hx rfl (13 : Int32) (hb hby at_91) (by decide) k) ?_
  show own_Go p e below s _ _ _ (T116.setTop (mkF m 93 #[.val (.int p1), .unset, .unset, .unset] [(.int (13 : Int32)), (.ref b13), (.ref b13)]))
  have O121 : Old Z n0 h116 := (O113.wr W116 g15)
  have F122 : Sta Z h116 "com/example/concordat/concordat/TxStatus" "TransactionHeuristicHazard" "Lcom/example/concordat/concordat/TxStatus;" (.ref a_TransactionHeuristicHazard) := S_a_TransactionHeuristicHazard.ext O121.2
  obtain ⟨T123, X123, e123, st123⟩ := getS2 X116 hx hZ hown (host := "") (Or.inl (hw _ (List.mem_of_getElem? (i := 30) rfl))) Via.refl e116 F122 (g := (mkF m 93 #[.val (.int p1), .unset, .unset, .unset] [(.int (13 : Int32)), (.ref b13), (.ref b13)])) rfl (hb hby at_93)
  refine own_st st123 ?_
  show own_Go p e below s _ _ _ (T123.setTop (mkF m 96 #[.val (.int p1), .unset, .unset, .unset] [(.ref a_TransactionHeuristicHazard), (.int (13 : Int32)), (.ref b13), (.ref b13)]))
  obtain ⟨cl124, Ar124, kc124, S124, Nn124, H124, G124⟩ := id F119
  have hin124 : ¬ ((13 : Int32) < 0 ∨ cl124.slots.size ≤ ((13 : Int32) : Int32).toNatClampNeg) := inb_of S124 (by decide)
  have F125 : Exa Z h116 a_TransactionHeuristicHazard "com/example/concordat/concordat/TxStatus" := Ex_a_TransactionHeuristicHazard.ext O121.2
  obtain ⟨T124, h124, X124, e124, W124, st124⟩ := stR X123 hx hZ e123 Ar124 (j := (13 : Int32)) hin124 rfl (Sto.ofV Ar124 kc124 O13 (Ins.self F125)) (g := (mkF m 96 #[.val (.int p1), .unset, .unset, .unset] [(.ref a_TransactionHeuristicHazard), (.int (13 : Int32)), (.ref b13), (.ref b13)])) rfl rfl (hb hby at_96)
  refine own_st st124 ?_
  have N126 := Fr.snoc X124 N118 g15
  have F127 : Arv Z h124 b13 k13 (.object "com/example/concordat/concordat/TxStatus") (15 : Int32) [(.ref a_TransactionActive), (.ref a_TransactionPreparing), (.ref a_TransactionPrepared), (.ref a_TransactionCommitting), (.ref a_TransactionCommitted), (.ref a_TransactionCommittedOnePhase), (.ref a_TransactionRollingBack), (.ref a_TransactionRolledBack), (.ref a_TransactionRollbackOnly), (.ref a_TransactionReadOnly), (.ref a_TransactionHeuristicRollback), (.ref a_TransactionHeuristicCommit), (.ref a_TransactionHeuristicMixed), (.ref a_TransactionHeuristicHazard), .null] .null := Arv.set Ar124 kc124 S124 Nn124 H124 G124 rfl W124 13 (by decide) (Nat.le_of_ble_eq_true rfl)
  have Zs128 : n0 ≤ h124.size := Nat.le_trans Zs120 (Nat.le_of_eq W124.size.symm)
  show own_Go p e below s _ _ _ (T124.setTop (mkF m 97 #[.val (.int p1), .unset, .unset, .unset] [(.ref b13)]))
  refine own_st (fun _ k => XS.dup X124.here hx rfl (hb hby at_97) rfl rfl k) ?_
  show own_Go p e below s _ _ _ (T124.setTop (mkF m 98 #[.val (.int p1), .unset, .unset, .unset] [(.ref b13), (.ref b13)]))
  refine own_st (fun _ k => XT.bipushV X124.here hx rfl (14 : Int32) (hb hby at_98) (by decide) k) ?_
  show own_Go p e below s _ _ _ (T124.setTop (mkF m 100 #[.val (.int p1), .unset, .unset, .unset] [(.int (14 : Int32)), (.ref b13), (.ref b13)]))
  have O129 : Old Z n0 h124 := (O121.wr W124 g15)
  have F130 : Sta Z h124 "com/example/concordat/concordat/TxStatus" "TransactionStatusUnknown" "Lcom/example/concordat/concordat/TxStatus;" (.ref a_TransactionStatusUnknown) := S_a_TransactionStatusUnknown.ext O129.2
  obtain ⟨T131, X131, e131, st131⟩ := getS2 X124 hx hZ hown (host := "") (Or.inl (hw _ (List.mem_of_getElem? (i := 32) rfl))) Via.refl e124 F130 (g := (mkF m 100 #[.val (.int p1), .unset, .unset, .unset] [(.int (14 : Int32)), (.ref b13), (.ref b13)])) rfl (hb hby at_100)
  refine own_st st131 ?_
  show own_Go p e below s _ _ _ (T131.setTop (mkF m 103 #[.val (.int p1), .unset, .unset, .unset] [(.ref a_TransactionStatusUnknown), (.int (14 : Int32)), (.ref b13), (.ref b13)]))
  obtain ⟨cl132, Ar132, kc132, S132, Nn132, H132, G132⟩ := id F127
  have hin132 : ¬ ((14 : Int32) < 0 ∨ cl132.slots.size ≤ ((14 : Int32) : Int32).toNatClampNeg) := inb_of S132 (by decide)
  have F133 : Exa Z h124 a_TransactionStatusUnknown "com/example/concordat/concordat/TxStatus" := Ex_a_TransactionStatusUnknown.ext O129.2
  obtain ⟨T132, h132, X132, e132, W132, st132⟩ := stR X131 hx hZ e131 Ar132 (j := (14 : Int32)) hin132 rfl (Sto.ofV Ar132 kc132 O13 (Ins.self F133)) (g := (mkF m 103 #[.val (.int p1), .unset, .unset, .unset] [(.ref a_TransactionStatusUnknown), (.int (14 : Int32)), (.ref b13), (.ref b13)])) rfl rfl (hb hby at_103)
  refine own_st st132 ?_
  have N134 := Fr.snoc X132 N126 g15
  have F135 : Arv Z h132 b13 k13 (.object "com/example/concordat/concordat/TxStatus") (15 : Int32) [(.ref a_TransactionActive), (.ref a_TransactionPreparing), (.ref a_TransactionPrepared), (.ref a_TransactionCommitting), (.ref a_TransactionCommitted), (.ref a_TransactionCommittedOnePhase), (.ref a_TransactionRollingBack), (.ref a_TransactionRolledBack), (.ref a_TransactionRollbackOnly), (.ref a_TransactionReadOnly), (.ref a_TransactionHeuristicRollback), (.ref a_TransactionHeuristicCommit), (.ref a_TransactionHeuristicMixed), (.ref a_TransactionHeuristicHazard), (.ref a_TransactionStatusUnknown)] .null := Arv.set Ar132 kc132 S132 Nn132 H132 G132 rfl W132 14 (by decide) (Nat.le_of_ble_eq_true rfl)
  have Zs136 : n0 ≤ h132.size := Nat.le_trans Zs128 (Nat.le_of_eq W132.size.symm)
  show own_Go p e below s _ _ _ (T132.setTop (mkF m 104 #[.val (.int p1), .unset, .unset, .unset] [(.ref b13)]))
  refine own_st (fun _ k => XS.astoreN X132.here hx rfl (hb hby at_104) rfl rfl (l' := #[.val (.int p1), .val (.ref b13), .unset, .unset]) rfl k) ?_
  show own_Go p e below s _ _ _ (T132.setTop (mkF m 105 #[.val (.int p1), .val (.ref b13), .unset, .unset] []))
  refine own_st (fun _ k => XS.iloadN X132.here hx rfl (hb hby at_105) rfl k) ?_
  show own_Go p e below s _ _ _ (T132.setTop (mkF m 106 #[.val (.int p1), .val (.ref b13), .unset, .unset] [(.int p1)]))
  refine own_st (fun _ k => X132.ldcI hx hown (mvT hZ (hw _ (List.mem_of_getElem? (i := 34) rfl))) rfl (hb hby at_106) k) ?_
  show own_Go p e below s _ _ _ (T132.setTop (mkF m 108 #[.val (.int p1), .val (.ref b13), .unset, .unset] [(.int (2147483647 : Int32)), (.int p1)]))
  refine own_st (fun _ k => XS.iand X132.here hx rfl (hb hby at_108) rfl k) ?_
  show own_Go p e below s _ _ _ (T132.setTop (mkF m 109 #[.val (.int p1), .val (.ref b13), .unset, .unset] [(.int (p1 &&& (2147483647 : Int32)))]))
  refine own_st (fun _ k => XT.bipushV X132.here hx rfl (15 : Int32) (hb hby at_109) (by decide) k) ?_
  show own_Go p e below s _ _ _ (T132.setTop (mkF m 111 #[.val (.int p1), .val (.ref b13), .unset, .unset] [(.int (15 : Int32)), (.int (p1 &&& (2147483647 : Int32)))]))
  refine own_st (fun _ k => iremM X132 hx rfl (hb hby at_111) rfl (by decide) k) ?_
  show own_Go p e below s _ _ _ (T132.setTop (mkF m 112 #[.val (.int p1), .val (.ref b13), .unset, .unset] [(.int ((p1 &&& (2147483647 : Int32)) % (15 : Int32)))]))
  refine own_st (fun _ k => XS.istoreN X132.here hx rfl (hb hby at_112) rfl (l' := #[.val (.int p1), .val (.ref b13), .val (.int ((p1 &&& (2147483647 : Int32)) % (15 : Int32))), .unset]) rfl k) ?_
  show own_Go p e below s _ _ _ (T132.setTop (mkF m 113 #[.val (.int p1), .val (.ref b13), .val (.int ((p1 &&& (2147483647 : Int32)) % (15 : Int32))), .unset] []))
  rcases own_lits15 p1 with hi | hi | hi | hi | hi | hi | hi | hi | hi | hi | hi | hi | hi | hi | hi
  · rw [hi]
    show own_Go p e below s _ _ _ (T132.setTop (mkF m 113 #[.val (.int p1), .val (.ref b13), .val (.int (0 : Int32)), .unset] []))
    refine own_st (fun _ k => XS.iloadN X132.here hx rfl (hb hby at_113) rfl k) ?_
    show own_Go p e below s _ _ _ (T132.setTop (mkF m 114 #[.val (.int p1), .val (.ref b13), .val (.int (0 : Int32)), .unset] [(.int (0 : Int32))]))
    refine own_st (fun _ k => XT.bipushV X132.here hx rfl (10 : Int32) (hb hby at_114) (by decide) k) ?_
    show own_Go p e below s _ _ _ (T132.setTop (mkF m 116 #[.val (.int p1), .val (.ref b13), .val (.int (0 : Int32)), .unset] [(.int (10 : Int32)), (.int (0 : Int32))]))
    refine own_st (fun _ k => XS.icmpYes X132.here hx rfl (pc0 := 116) (pc' := 129) rfl (hb hby at_116) rfl (XT.ii_lt_t (by decide)) (by decide) (by decide) k) ?_
    show own_Go p e below s _ _ _ (T132.setTop (mkF m 129 #[.val (.int p1), .val (.ref b13), .val (.int (0 : Int32)), .unset] []))
    refine own_st (fun _ k => XT.iconstV X132.here hx rfl (0 : Int32) (hb hby at_129) (by decide) k) ?_
    show own_Go p e below s _ _ _ (T132.setTop (mkF m 130 #[.val (.int p1), .val (.ref b13), .val (.int (0 : Int32)), .unset] [(.int (0 : Int32))]))
    refine own_st (fun _ k => XS.istoreN X132.here hx rfl (hb hby at_130) rfl (l' := #[.val (.int p1), .val (.ref b13), .val (.int (0 : Int32)), .val (.int (0 : Int32))]) rfl k) ?_
    show own_Go p e below s _ _ _ (T132.setTop (mkF m 131 #[.val (.int p1), .val (.ref b13), .val (.int (0 : Int32)), .val (.int (0 : Int32))] []))
    refine own_st (fun _ k => XS.aloadN X132.here hx rfl (hb hby at_131) rfl rfl k) ?_
    show own_Go p e below s _ _ _ (T132.setTop (mkF m 132 #[.val (.int p1), .val (.ref b13), .val (.int (0 : Int32)), .val (.int (0 : Int32))] [(.ref b13)]))
    refine own_st (fun _ k => XS.iloadN X132.here hx rfl (hb hby at_132) rfl k) ?_
    show own_Go p e below s _ _ _ (T132.setTop (mkF m 133 #[.val (.int p1), .val (.ref b13), .val (.int (0 : Int32)), .val (.int (0 : Int32))] [(.int (0 : Int32)), (.ref b13)]))
    obtain ⟨cl137, Ar137, kc137, S137, Nn137, H137, G137⟩ := id F135
    have hin137 : ¬ ((0 : Int32) < 0 ∨ cl137.slots.size ≤ ((0 : Int32) : Int32).toNatClampNeg) := inb_of S137 (by decide)
    have hat137 : cl137.slots[((0 : Int32) : Int32).toNatClampNeg]? = some (.ref a_TransactionActive) := H137.at hin137 rfl
    refine own_st (fun _ k => X132.aaload hx (j := (0 : Int32)) (v := (.ref a_TransactionActive)) (by rw [e132]; exact Ar137.1) (State.isArrayOf_alike hZ.alike Ar137.2.1) rfl Ar137.2.2 hin137 hat137 (g := (mkF m 133 #[.val (.int p1), .val (.ref b13), .val (.int (0 : Int32)), .val (.int (0 : Int32))] [(.int (0 : Int32)), (.ref b13)])) rfl rfl (hb hby at_133) _ k) ?_
    show own_Go p e below s _ _ _ (T132.setTop (mkF m 134 #[.val (.int p1), .val (.ref b13), .val (.int (0 : Int32)), .val (.int (0 : Int32))] [(.ref a_TransactionActive)]))
    have O139 : Old Z n0 h132 := (O129.wr W132 g15)
    have F140 : Exa Z h132 a_TransactionActive "com/example/concordat/concordat/TxStatus" := Ex_a_TransactionActive.ext O139.2
    obtain ⟨cq138, kq138, q138a, q138b, q138c⟩ := isOf hZ e132 F140
    obtain ⟨_, _, ⟨T138, L138, k138, n138⟩, -, X138, ⟨Lc138, hQ138, l138, y138, z138⟩, st138⟩ := X132.virtualBack hx (y := (⟨"com/example/concordat/concordat/TxStatus", "isHeuristic", "()Z"⟩ : MethodName)) (z := (⟨"com/example/concordat/concordat/TxStatus", "isHeuristic", "()Z"⟩ : MethodName)) hown (mvT hZ (hw _ (List.mem_of_getElem? (i := 35) rfl))) (mvT hZ (hw _ (List.mem_of_getElem? (i := 36) rfl))) (notFace_of_selects (args := #[]) (mvT hZ (hw _ (List.mem_of_getElem? (i := 38) rfl)))) (mvT hZ (hw _ (List.mem_of_getElem? (i := 38) rfl))) (mvT hZ (hw _ (List.mem_of_getElem? (i := 37) rfl))) (by decide) (backOf (W := 0) (own_rm_is l Z a0 hw [] a_TransactionActive a_TransactionHeuristicRollback a_TransactionHeuristicCommit a_TransactionHeuristicMixed a_TransactionHeuristicHazard h132 n0 Zs136 O139 S_a_TransactionHeuristicRollback S_a_TransactionHeuristicCommit S_a_TransactionHeuristicMixed S_a_TransactionHeuristicHazard) hZ (hw _ (List.mem_of_getElem? (i := 39) rfl)) (hw _ (List.mem_of_getElem? (i := 3) rfl)) (by decide) (by decide)) q138a q138c (g := (mkF m 134 #[.val (.int p1), .val (.ref b13), .val (.int (0 : Int32)), .val (.int (0 : Int32))] [(.ref a_TransactionActive)])) rfl (by rw [hml]; rfl) (Steps.refl _) (argsL := []) (rest := []) (lenOf own_pd0 rfl) rfl (by show 2 * 0 + _ ≤ _; exact Nat.le_of_eq rfl) (hb hby at_134) (fun _ _ => ⟨rfl, e132, (by decide : 1 + 0 ≤ _), (by decide : 15 + 0 ≤ _)⟩)
    dsimp only [Pt.U, Pt.locs, Pt.cells, Pt.slots] at X138 l138 y138 z138 st138 hQ138
    subst l138 y138 z138
    obtain ⟨N138q, rfl, eh138⟩ := hQ138
    have N141 := Fr.app N134 N138q
    refine own_tr st138 ?_
    show own_Go p e below s _ _ _ (T138.setTop (mkF m 137 #[.val (.int p1), .val (.ref b13), .val (.int (0 : Int32)), .val (.int (0 : Int32))] [(.int (own_is a_TransactionHeuristicRollback a_TransactionHeuristicCommit a_TransactionHeuristicMixed a_TransactionHeuristicHazard a_TransactionActive))]))
    refine own_st (fun _ k => XS.iloadN X138.here hx rfl (hb hby at_137) rfl k) ?_
    show own_Go p e below s _ _ _ (T138.setTop (mkF m 138 #[.val (.int p1), .val (.ref b13), .val (.int (0 : Int32)), .val (.int (0 : Int32))] [(.int (0 : Int32)), (.int (own_is a_TransactionHeuristicRollback a_TransactionHeuristicCommit a_TransactionHeuristicMixed a_TransactionHeuristicHazard a_TransactionActive))]))
    refine own_st (fun _ k => XS.icmpNo X138.here hx rfl (hb hby at_138) rfl (XT.ii_ne_f (by simp [own_is, ne_Active_HeuristicRollback, ne_Active_HeuristicCommit, ne_Active_HeuristicMixed, ne_Active_HeuristicHazard])) k) ?_
    show own_Go p e below s _ _ _ (T138.setTop (mkF m 141 #[.val (.int p1), .val (.ref b13), .val (.int (0 : Int32)), .val (.int (0 : Int32))] []))
    refine own_st (fun _ k => XT.iconstV X138.here hx rfl (1 : Int32) (hb hby at_141) (by decide) k) ?_
    show own_Go p e below s _ _ _ (T138.setTop (mkF m 142 #[.val (.int p1), .val (.ref b13), .val (.int (0 : Int32)), .val (.int (0 : Int32))] [(.int (1 : Int32))]))
    refine own_st (fun _ k => XS.goto X138.here hx rfl (pc0 := 142) (pc' := 146) rfl (hb hby at_142) (by decide) (by decide) k) ?_
    show own_Go p e below s _ _ _ (T138.setTop (mkF m 146 #[.val (.int p1), .val (.ref b13), .val (.int (0 : Int32)), .val (.int (0 : Int32))] [(.int (1 : Int32))]))
    refine own_retN X138 hx hlk Bd.returns (t := .boolean) (z' := (1 : Int32)) (by simp) (by decide) (hb hby at_146) (by decide) (by decide) ?_
    rw [eh138]
    exact ⟨N141, rfl⟩
  · rw [hi]
    show own_Go p e below s _ _ _ (T132.setTop (mkF m 113 #[.val (.int p1), .val (.ref b13), .val (.int (1 : Int32)), .unset] []))
    refine own_st (fun _ k => XS.iloadN X132.here hx rfl (hb hby at_113) rfl k) ?_
    show own_Go p e below s _ _ _ (T132.setTop (mkF m 114 #[.val (.int p1), .val (.ref b13), .val (.int (1 : Int32)), .unset] [(.int (1 : Int32))]))
    refine own_st (fun _ k => XT.bipushV X132.here hx rfl (10 : Int32) (hb hby at_114) (by decide) k) ?_
    show own_Go p e below s _ _ _ (T132.setTop (mkF m 116 #[.val (.int p1), .val (.ref b13), .val (.int (1 : Int32)), .unset] [(.int (10 : Int32)), (.int (1 : Int32))]))
    refine own_st (fun _ k => XS.icmpYes X132.here hx rfl (pc0 := 116) (pc' := 129) rfl (hb hby at_116) rfl (XT.ii_lt_t (by decide)) (by decide) (by decide) k) ?_
    show own_Go p e below s _ _ _ (T132.setTop (mkF m 129 #[.val (.int p1), .val (.ref b13), .val (.int (1 : Int32)), .unset] []))
    refine own_st (fun _ k => XT.iconstV X132.here hx rfl (0 : Int32) (hb hby at_129) (by decide) k) ?_
    show own_Go p e below s _ _ _ (T132.setTop (mkF m 130 #[.val (.int p1), .val (.ref b13), .val (.int (1 : Int32)), .unset] [(.int (0 : Int32))]))
    refine own_st (fun _ k => XS.istoreN X132.here hx rfl (hb hby at_130) rfl (l' := #[.val (.int p1), .val (.ref b13), .val (.int (1 : Int32)), .val (.int (0 : Int32))]) rfl k) ?_
    show own_Go p e below s _ _ _ (T132.setTop (mkF m 131 #[.val (.int p1), .val (.ref b13), .val (.int (1 : Int32)), .val (.int (0 : Int32))] []))
    refine own_st (fun _ k => XS.aloadN X132.here hx rfl (hb hby at_131) rfl rfl k) ?_
    show own_Go p e below s _ _ _ (T132.setTop (mkF m 132 #[.val (.int p1), .val (.ref b13), .val (.int (1 : Int32)), .val (.int (0 : Int32))] [(.ref b13)]))
    refine own_st (fun _ k => XS.iloadN X132.here hx rfl (hb hby at_132) rfl k) ?_
    show own_Go p e below s _ _ _ (T132.setTop (mkF m 133 #[.val (.int p1), .val (.ref b13), .val (.int (1 : Int32)), .val (.int (0 : Int32))] [(.int (1 : Int32)), (.ref b13)]))
    obtain ⟨cl142, Ar142, kc142, S142, Nn142, H142, G142⟩ := id F135
    have hin142 : ¬ ((1 : Int32) < 0 ∨ cl142.slots.size ≤ ((1 : Int32) : Int32).toNatClampNeg) := inb_of S142 (by decide)
    have hat142 : cl142.slots[((1 : Int32) : Int32).toNatClampNeg]? = some (.ref a_TransactionPreparing) := H142.at hin142 rfl
    refine own_st (fun _ k => X132.aaload hx (j := (1 : Int32)) (v := (.ref a_TransactionPreparing)) (by rw [e132]; exact Ar142.1) (State.isArrayOf_alike hZ.alike Ar142.2.1) rfl Ar142.2.2 hin142 hat142 (g := (mkF m 133 #[.val (.int p1), .val (.ref b13), .val (.int (1 : Int32)), .val (.int (0 : Int32))] [(.int (1 : Int32)), (.ref b13)])) rfl rfl (hb hby at_133) _ k) ?_
    show own_Go p e below s _ _ _ (T132.setTop (mkF m 134 #[.val (.int p1), .val (.ref b13), .val (.int (1 : Int32)), .val (.int (0 : Int32))] [(.ref a_TransactionPreparing)]))
    have O144 : Old Z n0 h132 := (O129.wr W132 g15)
    have F145 : Exa Z h132 a_TransactionPreparing "com/example/concordat/concordat/TxStatus" := Ex_a_TransactionPreparing.ext O144.2
    obtain ⟨cq143, kq143, q143a, q143b, q143c⟩ := isOf hZ e132 F145
    obtain ⟨_, _, ⟨T143, L143, k143, n143⟩, -, X143, ⟨Lc143, hQ143, l143, y143, z143⟩, st143⟩ := X132.virtualBack hx (y := (⟨"com/example/concordat/concordat/TxStatus", "isHeuristic", "()Z"⟩ : MethodName)) (z := (⟨"com/example/concordat/concordat/TxStatus", "isHeuristic", "()Z"⟩ : MethodName)) hown (mvT hZ (hw _ (List.mem_of_getElem? (i := 35) rfl))) (mvT hZ (hw _ (List.mem_of_getElem? (i := 36) rfl))) (notFace_of_selects (args := #[]) (mvT hZ (hw _ (List.mem_of_getElem? (i := 38) rfl)))) (mvT hZ (hw _ (List.mem_of_getElem? (i := 38) rfl))) (mvT hZ (hw _ (List.mem_of_getElem? (i := 37) rfl))) (by decide) (backOf (W := 0) (own_rm_is l Z a0 hw [] a_TransactionPreparing a_TransactionHeuristicRollback a_TransactionHeuristicCommit a_TransactionHeuristicMixed a_TransactionHeuristicHazard h132 n0 Zs136 O144 S_a_TransactionHeuristicRollback S_a_TransactionHeuristicCommit S_a_TransactionHeuristicMixed S_a_TransactionHeuristicHazard) hZ (hw _ (List.mem_of_getElem? (i := 39) rfl)) (hw _ (List.mem_of_getElem? (i := 3) rfl)) (by decide) (by decide)) q143a q143c (g := (mkF m 134 #[.val (.int p1), .val (.ref b13), .val (.int (1 : Int32)), .val (.int (0 : Int32))] [(.ref a_TransactionPreparing)])) rfl (by rw [hml]; rfl) (Steps.refl _) (argsL := []) (rest := []) (lenOf own_pd0 rfl) rfl (by show 2 * 0 + _ ≤ _; exact Nat.le_of_eq rfl) (hb hby at_134) (fun _ _ => ⟨rfl, e132, (by decide : 1 + 0 ≤ _), (by decide : 15 + 0 ≤ _)⟩)
    dsimp only [Pt.U, Pt.locs, Pt.cells, Pt.slots] at X143 l143 y143 z143 st143 hQ143
    subst l143 y143 z143
    obtain ⟨N143q, rfl, eh143⟩ := hQ143
    have N146 := Fr.app N134 N143q
    refine own_tr st143 ?_
    show own_Go p e below s _ _ _ (T143.setTop (mkF m 137 #[.val (.int p1), .val (.ref b13), .val (.int (1 : Int32)), .val (.int (0 : Int32))] [(.int (own_is a_TransactionHeuristicRollback a_TransactionHeuristicCommit a_TransactionHeuristicMixed a_TransactionHeuristicHazard a_TransactionPreparing))]))
    refine own_st (fun _ k => XS.iloadN X143.here hx rfl (hb hby at_137) rfl k) ?_
    show own_Go p e below s _ _ _ (T143.setTop (mkF m 138 #[.val (.int p1), .val (.ref b13), .val (.int (1 : Int32)), .val (.int (0 : Int32))] [(.int (0 : Int32)), (.int (own_is a_TransactionHeuristicRollback a_TransactionHeuristicCommit a_TransactionHeuristicMixed a_TransactionHeuristicHazard a_TransactionPreparing))]))
    refine own_st (fun _ k => XS.icmpNo X143.here hx rfl (hb hby at_138) rfl (XT.ii_ne_f (by simp [own_is, ne_Preparing_HeuristicRollback, ne_Preparing_HeuristicCommit, ne_Preparing_HeuristicMixed, ne_Preparing_HeuristicHazard])) k) ?_
    show own_Go p e below s _ _ _ (T143.setTop (mkF m 141 #[.val (.int p1), .val (.ref b13), .val (.int (1 : Int32)), .val (.int (0 : Int32))] []))
    refine own_st (fun _ k => XT.iconstV X143.here hx rfl (1 : Int32) (hb hby at_141) (by decide) k) ?_
    show own_Go p e below s _ _ _ (T143.setTop (mkF m 142 #[.val (.int p1), .val (.ref b13), .val (.int (1 : Int32)), .val (.int (0 : Int32))] [(.int (1 : Int32))]))
    refine own_st (fun _ k => XS.goto X143.here hx rfl (pc0 := 142) (pc' := 146) rfl (hb hby at_142) (by decide) (by decide) k) ?_
    show own_Go p e below s _ _ _ (T143.setTop (mkF m 146 #[.val (.int p1), .val (.ref b13), .val (.int (1 : Int32)), .val (.int (0 : Int32))] [(.int (1 : Int32))]))
    refine own_retN X143 hx hlk Bd.returns (t := .boolean) (z' := (1 : Int32)) (by simp) (by decide) (hb hby at_146) (by decide) (by decide) ?_
    rw [eh143]
    exact ⟨N146, rfl⟩
  · rw [hi]
    show own_Go p e below s _ _ _ (T132.setTop (mkF m 113 #[.val (.int p1), .val (.ref b13), .val (.int (2 : Int32)), .unset] []))
    refine own_st (fun _ k => XS.iloadN X132.here hx rfl (hb hby at_113) rfl k) ?_
    show own_Go p e below s _ _ _ (T132.setTop (mkF m 114 #[.val (.int p1), .val (.ref b13), .val (.int (2 : Int32)), .unset] [(.int (2 : Int32))]))
    refine own_st (fun _ k => XT.bipushV X132.here hx rfl (10 : Int32) (hb hby at_114) (by decide) k) ?_
    show own_Go p e below s _ _ _ (T132.setTop (mkF m 116 #[.val (.int p1), .val (.ref b13), .val (.int (2 : Int32)), .unset] [(.int (10 : Int32)), (.int (2 : Int32))]))
    refine own_st (fun _ k => XS.icmpYes X132.here hx rfl (pc0 := 116) (pc' := 129) rfl (hb hby at_116) rfl (XT.ii_lt_t (by decide)) (by decide) (by decide) k) ?_
    show own_Go p e below s _ _ _ (T132.setTop (mkF m 129 #[.val (.int p1), .val (.ref b13), .val (.int (2 : Int32)), .unset] []))
    refine own_st (fun _ k => XT.iconstV X132.here hx rfl (0 : Int32) (hb hby at_129) (by decide) k) ?_
    show own_Go p e below s _ _ _ (T132.setTop (mkF m 130 #[.val (.int p1), .val (.ref b13), .val (.int (2 : Int32)), .unset] [(.int (0 : Int32))]))
    refine own_st (fun _ k => XS.istoreN X132.here hx rfl (hb hby at_130) rfl (l' := #[.val (.int p1), .val (.ref b13), .val (.int (2 : Int32)), .val (.int (0 : Int32))]) rfl k) ?_
    show own_Go p e below s _ _ _ (T132.setTop (mkF m 131 #[.val (.int p1), .val (.ref b13), .val (.int (2 : Int32)), .val (.int (0 : Int32))] []))
    refine own_st (fun _ k => XS.aloadN X132.here hx rfl (hb hby at_131) rfl rfl k) ?_
    show own_Go p e below s _ _ _ (T132.setTop (mkF m 132 #[.val (.int p1), .val (.ref b13), .val (.int (2 : Int32)), .val (.int (0 : Int32))] [(.ref b13)]))
    refine own_st (fun _ k => XS.iloadN X132.here hx rfl (hb hby at_132) rfl k) ?_
    show own_Go p e below s _ _ _ (T132.setTop (mkF m 133 #[.val (.int p1), .val (.ref b13), .val (.int (2 : Int32)), .val (.int (0 : Int32))] [(.int (2 : Int32)), (.ref b13)]))
    obtain ⟨cl147, Ar147, kc147, S147, Nn147, H147, G147⟩ := id F135
    have hin147 : ¬ ((2 : Int32) < 0 ∨ cl147.slots.size ≤ ((2 : Int32) : Int32).toNatClampNeg) := inb_of S147 (by decide)
    have hat147 : cl147.slots[((2 : Int32) : Int32).toNatClampNeg]? = some (.ref a_TransactionPrepared) := H147.at hin147 rfl
    refine own_st (fun _ k => X132.aaload hx (j := (2 : Int32)) (v := (.ref a_TransactionPrepared)) (by rw [e132]; exact Ar147.1) (State.isArrayOf_alike hZ.alike Ar147.2.1) rfl Ar147.2.2 hin147 hat147 (g := (mkF m 133 #[.val (.int p1), .val (.ref b13), .val (.int (2 : Int32)), .val (.int (0 : Int32))] [(.int (2 : Int32)), (.ref b13)])) rfl rfl (hb hby at_133) _ k) ?_
    show own_Go p e below s _ _ _ (T132.setTop (mkF m 134 #[.val (.int p1), .val (.ref b13), .val (.int (2 : Int32)), .val (.int (0 : Int32))] [(.ref a_TransactionPrepared)]))
    have O149 : Old Z n0 h132 := (O129.wr W132 g15)
    have F150 : Exa Z h132 a_TransactionPrepared "com/example/concordat/concordat/TxStatus" := Ex_a_TransactionPrepared.ext O149.2
    obtain ⟨cq148, kq148, q148a, q148b, q148c⟩ := isOf hZ e132 F150
    obtain ⟨_, _, ⟨T148, L148, k148, n148⟩, -, X148, ⟨Lc148, hQ148, l148, y148, z148⟩, st148⟩ := X132.virtualBack hx (y := (⟨"com/example/concordat/concordat/TxStatus", "isHeuristic", "()Z"⟩ : MethodName)) (z := (⟨"com/example/concordat/concordat/TxStatus", "isHeuristic", "()Z"⟩ : MethodName)) hown (mvT hZ (hw _ (List.mem_of_getElem? (i := 35) rfl))) (mvT hZ (hw _ (List.mem_of_getElem? (i := 36) rfl))) (notFace_of_selects (args := #[]) (mvT hZ (hw _ (List.mem_of_getElem? (i := 38) rfl)))) (mvT hZ (hw _ (List.mem_of_getElem? (i := 38) rfl))) (mvT hZ (hw _ (List.mem_of_getElem? (i := 37) rfl))) (by decide) (backOf (W := 0) (own_rm_is l Z a0 hw [] a_TransactionPrepared a_TransactionHeuristicRollback a_TransactionHeuristicCommit a_TransactionHeuristicMixed a_TransactionHeuristicHazard h132 n0 Zs136 O149 S_a_TransactionHeuristicRollback S_a_TransactionHeuristicCommit S_a_TransactionHeuristicMixed S_a_TransactionHeuristicHazard) hZ (hw _ (List.mem_of_getElem? (i := 39) rfl)) (hw _ (List.mem_of_getElem? (i := 3) rfl)) (by decide) (by decide)) q148a q148c (g := (mkF m 134 #[.val (.int p1), .val (.ref b13), .val (.int (2 : Int32)), .val (.int (0 : Int32))] [(.ref a_TransactionPrepared)])) rfl (by rw [hml]; rfl) (Steps.refl _) (argsL := []) (rest := []) (lenOf own_pd0 rfl) rfl (by show 2 * 0 + _ ≤ _; exact Nat.le_of_eq rfl) (hb hby at_134) (fun _ _ => ⟨rfl, e132, (by decide : 1 + 0 ≤ _), (by decide : 15 + 0 ≤ _)⟩)
    dsimp only [Pt.U, Pt.locs, Pt.cells, Pt.slots] at X148 l148 y148 z148 st148 hQ148
    subst l148 y148 z148
    obtain ⟨N148q, rfl, eh148⟩ := hQ148
    have N151 := Fr.app N134 N148q
    refine own_tr st148 ?_
    show own_Go p e below s _ _ _ (T148.setTop (mkF m 137 #[.val (.int p1), .val (.ref b13), .val (.int (2 : Int32)), .val (.int (0 : Int32))] [(.int (own_is a_TransactionHeuristicRollback a_TransactionHeuristicCommit a_TransactionHeuristicMixed a_TransactionHeuristicHazard a_TransactionPrepared))]))
    refine own_st (fun _ k => XS.iloadN X148.here hx rfl (hb hby at_137) rfl k) ?_
    show own_Go p e below s _ _ _ (T148.setTop (mkF m 138 #[.val (.int p1), .val (.ref b13), .val (.int (2 : Int32)), .val (.int (0 : Int32))] [(.int (0 : Int32)), (.int (own_is a_TransactionHeuristicRollback a_TransactionHeuristicCommit a_TransactionHeuristicMixed a_TransactionHeuristicHazard a_TransactionPrepared))]))
    refine own_st (fun _ k => XS.icmpNo X148.here hx rfl (hb hby at_138) rfl (XT.ii_ne_f (by simp [own_is, ne_Prepared_HeuristicRollback, ne_Prepared_HeuristicCommit, ne_Prepared_HeuristicMixed, ne_Prepared_HeuristicHazard])) k) ?_
    show own_Go p e below s _ _ _ (T148.setTop (mkF m 141 #[.val (.int p1), .val (.ref b13), .val (.int (2 : Int32)), .val (.int (0 : Int32))] []))
    refine own_st (fun _ k => XT.iconstV X148.here hx rfl (1 : Int32) (hb hby at_141) (by decide) k) ?_
    show own_Go p e below s _ _ _ (T148.setTop (mkF m 142 #[.val (.int p1), .val (.ref b13), .val (.int (2 : Int32)), .val (.int (0 : Int32))] [(.int (1 : Int32))]))
    refine own_st (fun _ k => XS.goto X148.here hx rfl (pc0 := 142) (pc' := 146) rfl (hb hby at_142) (by decide) (by decide) k) ?_
    show own_Go p e below s _ _ _ (T148.setTop (mkF m 146 #[.val (.int p1), .val (.ref b13), .val (.int (2 : Int32)), .val (.int (0 : Int32))] [(.int (1 : Int32))]))
    refine own_retN X148 hx hlk Bd.returns (t := .boolean) (z' := (1 : Int32)) (by simp) (by decide) (hb hby at_146) (by decide) (by decide) ?_
    rw [eh148]
    exact ⟨N151, rfl⟩
  · rw [hi]
    show own_Go p e below s _ _ _ (T132.setTop (mkF m 113 #[.val (.int p1), .val (.ref b13), .val (.int (3 : Int32)), .unset] []))
    refine own_st (fun _ k => XS.iloadN X132.here hx rfl (hb hby at_113) rfl k) ?_
    show own_Go p e below s _ _ _ (T132.setTop (mkF m 114 #[.val (.int p1), .val (.ref b13), .val (.int (3 : Int32)), .unset] [(.int (3 : Int32))]))
    refine own_st (fun _ k => XT.bipushV X132.here hx rfl (10 : Int32) (hb hby at_114) (by decide) k) ?_
    show own_Go p e below s _ _ _ (T132.setTop (mkF m 116 #[.val (.int p1), .val (.ref b13), .val (.int (3 : Int32)), .unset] [(.int (10 : Int32)), (.int (3 : Int32))]))
    refine own_st (fun _ k => XS.icmpYes X132.here hx rfl (pc0 := 116) (pc' := 129) rfl (hb hby at_116) rfl (XT.ii_lt_t (by decide)) (by decide) (by decide) k) ?_
    show own_Go p e below s _ _ _ (T132.setTop (mkF m 129 #[.val (.int p1), .val (.ref b13), .val (.int (3 : Int32)), .unset] []))
    refine own_st (fun _ k => XT.iconstV X132.here hx rfl (0 : Int32) (hb hby at_129) (by decide) k) ?_
    show own_Go p e below s _ _ _ (T132.setTop (mkF m 130 #[.val (.int p1), .val (.ref b13), .val (.int (3 : Int32)), .unset] [(.int (0 : Int32))]))
    refine own_st (fun _ k => XS.istoreN X132.here hx rfl (hb hby at_130) rfl (l' := #[.val (.int p1), .val (.ref b13), .val (.int (3 : Int32)), .val (.int (0 : Int32))]) rfl k) ?_
    show own_Go p e below s _ _ _ (T132.setTop (mkF m 131 #[.val (.int p1), .val (.ref b13), .val (.int (3 : Int32)), .val (.int (0 : Int32))] []))
    refine own_st (fun _ k => XS.aloadN X132.here hx rfl (hb hby at_131) rfl rfl k) ?_
    show own_Go p e below s _ _ _ (T132.setTop (mkF m 132 #[.val (.int p1), .val (.ref b13), .val (.int (3 : Int32)), .val (.int (0 : Int32))] [(.ref b13)]))
    refine own_st (fun _ k => XS.iloadN X132.here hx rfl (hb hby at_132) rfl k) ?_
    show own_Go p e below s _ _ _ (T132.setTop (mkF m 133 #[.val (.int p1), .val (.ref b13), .val (.int (3 : Int32)), .val (.int (0 : Int32))] [(.int (3 : Int32)), (.ref b13)]))
    obtain ⟨cl152, Ar152, kc152, S152, Nn152, H152, G152⟩ := id F135
    have hin152 : ¬ ((3 : Int32) < 0 ∨ cl152.slots.size ≤ ((3 : Int32) : Int32).toNatClampNeg) := inb_of S152 (by decide)
    have hat152 : cl152.slots[((3 : Int32) : Int32).toNatClampNeg]? = some (.ref a_TransactionCommitting) := H152.at hin152 rfl
    refine own_st (fun _ k => X132.aaload hx (j := (3 : Int32)) (v := (.ref a_TransactionCommitting)) (by rw [e132]; exact Ar152.1) (State.isArrayOf_alike hZ.alike Ar152.2.1) rfl Ar152.2.2 hin152 hat152 (g := (mkF m 133 #[.val (.int p1), .val (.ref b13), .val (.int (3 : Int32)), .val (.int (0 : Int32))] [(.int (3 : Int32)), (.ref b13)])) rfl rfl (hb hby at_133) _ k) ?_
    show own_Go p e below s _ _ _ (T132.setTop (mkF m 134 #[.val (.int p1), .val (.ref b13), .val (.int (3 : Int32)), .val (.int (0 : Int32))] [(.ref a_TransactionCommitting)]))
    have O154 : Old Z n0 h132 := (O129.wr W132 g15)
    have F155 : Exa Z h132 a_TransactionCommitting "com/example/concordat/concordat/TxStatus" := Ex_a_TransactionCommitting.ext O154.2
    obtain ⟨cq153, kq153, q153a, q153b, q153c⟩ := isOf hZ e132 F155
    obtain ⟨_, _, ⟨T153, L153, k153, n153⟩, -, X153, ⟨Lc153, hQ153, l153, y153, z153⟩, st153⟩ := X132.virtualBack hx (y := (⟨"com/example/concordat/concordat/TxStatus", "isHeuristic", "()Z"⟩ : MethodName)) (z := (⟨"com/example/concordat/concordat/TxStatus", "isHeuristic", "()Z"⟩ : MethodName)) hown (mvT hZ (hw _ (List.mem_of_getElem? (i := 35) rfl))) (mvT hZ (hw _ (List.mem_of_getElem? (i := 36) rfl))) (notFace_of_selects (args := #[]) (mvT hZ (hw _ (List.mem_of_getElem? (i := 38) rfl)))) (mvT hZ (hw _ (List.mem_of_getElem? (i := 38) rfl))) (mvT hZ (hw _ (List.mem_of_getElem? (i := 37) rfl))) (by decide) (backOf (W := 0) (own_rm_is l Z a0 hw [] a_TransactionCommitting a_TransactionHeuristicRollback a_TransactionHeuristicCommit a_TransactionHeuristicMixed a_TransactionHeuristicHazard h132 n0 Zs136 O154 S_a_TransactionHeuristicRollback S_a_TransactionHeuristicCommit S_a_TransactionHeuristicMixed S_a_TransactionHeuristicHazard) hZ (hw _ (List.mem_of_getElem? (i := 39) rfl)) (hw _ (List.mem_of_getElem? (i := 3) rfl)) (by decide) (by decide)) q153a q153c (g := (mkF m 134 #[.val (.int p1), .val (.ref b13), .val (.int (3 : Int32)), .val (.int (0 : Int32))] [(.ref a_TransactionCommitting)])) rfl (by rw [hml]; rfl) (Steps.refl _) (argsL := []) (rest := []) (lenOf own_pd0 rfl) rfl (by show 2 * 0 + _ ≤ _; exact Nat.le_of_eq rfl) (hb hby at_134) (fun _ _ => ⟨rfl, e132, (by decide : 1 + 0 ≤ _), (by decide : 15 + 0 ≤ _)⟩)
    dsimp only [Pt.U, Pt.locs, Pt.cells, Pt.slots] at X153 l153 y153 z153 st153 hQ153
    subst l153 y153 z153
    obtain ⟨N153q, rfl, eh153⟩ := hQ153
    have N156 := Fr.app N134 N153q
    refine own_tr st153 ?_
    show own_Go p e below s _ _ _ (T153.setTop (mkF m 137 #[.val (.int p1), .val (.ref b13), .val (.int (3 : Int32)), .val (.int (0 : Int32))] [(.int (own_is a_TransactionHeuristicRollback a_TransactionHeuristicCommit a_TransactionHeuristicMixed a_TransactionHeuristicHazard a_TransactionCommitting))]))
    refine own_st (fun _ k => XS.iloadN X153.here hx rfl (hb hby at_137) rfl k) ?_
    show own_Go p e below s _ _ _ (T153.setTop (mkF m 138 #[.val (.int p1), .val (.ref b13), .val (.int (3 : Int32)), .val (.int (0 : Int32))] [(.int (0 : Int32)), (.int (own_is a_TransactionHeuristicRollback a_TransactionHeuristicCommit a_TransactionHeuristicMixed a_TransactionHeuristicHazard a_TransactionCommitting))]))
    refine own_st (fun _ k => XS.icmpNo X153.here hx rfl (hb hby at_138) rfl (XT.ii_ne_f (by simp [own_is, ne_Committing_HeuristicRollback, ne_Committing_HeuristicCommit, ne_Committing_HeuristicMixed, ne_Committing_HeuristicHazard])) k) ?_
    show own_Go p e below s _ _ _ (T153.setTop (mkF m 141 #[.val (.int p1), .val (.ref b13), .val (.int (3 : Int32)), .val (.int (0 : Int32))] []))
    refine own_st (fun _ k => XT.iconstV X153.here hx rfl (1 : Int32) (hb hby at_141) (by decide) k) ?_
    show own_Go p e below s _ _ _ (T153.setTop (mkF m 142 #[.val (.int p1), .val (.ref b13), .val (.int (3 : Int32)), .val (.int (0 : Int32))] [(.int (1 : Int32))]))
    refine own_st (fun _ k => XS.goto X153.here hx rfl (pc0 := 142) (pc' := 146) rfl (hb hby at_142) (by decide) (by decide) k) ?_
    show own_Go p e below s _ _ _ (T153.setTop (mkF m 146 #[.val (.int p1), .val (.ref b13), .val (.int (3 : Int32)), .val (.int (0 : Int32))] [(.int (1 : Int32))]))
    refine own_retN X153 hx hlk Bd.returns (t := .boolean) (z' := (1 : Int32)) (by simp) (by decide) (hb hby at_146) (by decide) (by decide) ?_
    rw [eh153]
    exact ⟨N156, rfl⟩
  · rw [hi]
    show own_Go p e below s _ _ _ (T132.setTop (mkF m 113 #[.val (.int p1), .val (.ref b13), .val (.int (4 : Int32)), .unset] []))
    refine own_st (fun _ k => XS.iloadN X132.here hx rfl (hb hby at_113) rfl k) ?_
    show own_Go p e below s _ _ _ (T132.setTop (mkF m 114 #[.val (.int p1), .val (.ref b13), .val (.int (4 : Int32)), .unset] [(.int (4 : Int32))]))
    refine own_st (fun _ k => XT.bipushV X132.here hx rfl (10 : Int32) (hb hby at_114) (by decide) k) ?_
    show own_Go p e below s _ _ _ (T132.setTop (mkF m 116 #[.val (.int p1), .val (.ref b13), .val (.int (4 : Int32)), .unset] [(.int (10 : Int32)), (.int (4 : Int32))]))
    refine own_st (fun _ k => XS.icmpYes X132.here hx rfl (pc0 := 116) (pc' := 129) rfl (hb hby at_116) rfl (XT.ii_lt_t (by decide)) (by decide) (by decide) k) ?_
    show own_Go p e below s _ _ _ (T132.setTop (mkF m 129 #[.val (.int p1), .val (.ref b13), .val (.int (4 : Int32)), .unset] []))
    refine own_st (fun _ k => XT.iconstV X132.here hx rfl (0 : Int32) (hb hby at_129) (by decide) k) ?_
    show own_Go p e below s _ _ _ (T132.setTop (mkF m 130 #[.val (.int p1), .val (.ref b13), .val (.int (4 : Int32)), .unset] [(.int (0 : Int32))]))
    refine own_st (fun _ k => XS.istoreN X132.here hx rfl (hb hby at_130) rfl (l' := #[.val (.int p1), .val (.ref b13), .val (.int (4 : Int32)), .val (.int (0 : Int32))]) rfl k) ?_
    show own_Go p e below s _ _ _ (T132.setTop (mkF m 131 #[.val (.int p1), .val (.ref b13), .val (.int (4 : Int32)), .val (.int (0 : Int32))] []))
    refine own_st (fun _ k => XS.aloadN X132.here hx rfl (hb hby at_131) rfl rfl k) ?_
    show own_Go p e below s _ _ _ (T132.setTop (mkF m 132 #[.val (.int p1), .val (.ref b13), .val (.int (4 : Int32)), .val (.int (0 : Int32))] [(.ref b13)]))
    refine own_st (fun _ k => XS.iloadN X132.here hx rfl (hb hby at_132) rfl k) ?_
    show own_Go p e below s _ _ _ (T132.setTop (mkF m 133 #[.val (.int p1), .val (.ref b13), .val (.int (4 : Int32)), .val (.int (0 : Int32))] [(.int (4 : Int32)), (.ref b13)]))
    obtain ⟨cl157, Ar157, kc157, S157, Nn157, H157, G157⟩ := id F135
    have hin157 : ¬ ((4 : Int32) < 0 ∨ cl157.slots.size ≤ ((4 : Int32) : Int32).toNatClampNeg) := inb_of S157 (by decide)
    have hat157 : cl157.slots[((4 : Int32) : Int32).toNatClampNeg]? = some (.ref a_TransactionCommitted) := H157.at hin157 rfl
    refine own_st (fun _ k => X132.aaload hx (j := (4 : Int32)) (v := (.ref a_TransactionCommitted)) (by rw [e132]; exact Ar157.1) (State.isArrayOf_alike hZ.alike Ar157.2.1) rfl Ar157.2.2 hin157 hat157 (g := (mkF m 133 #[.val (.int p1), .val (.ref b13), .val (.int (4 : Int32)), .val (.int (0 : Int32))] [(.int (4 : Int32)), (.ref b13)])) rfl rfl (hb hby at_133) _ k) ?_
    show own_Go p e below s _ _ _ (T132.setTop (mkF m 134 #[.val (.int p1), .val (.ref b13), .val (.int (4 : Int32)), .val (.int (0 : Int32))] [(.ref a_TransactionCommitted)]))
    have O159 : Old Z n0 h132 := (O129.wr W132 g15)
    have F160 : Exa Z h132 a_TransactionCommitted "com/example/concordat/concordat/TxStatus" := Ex_a_TransactionCommitted.ext O159.2
    obtain ⟨cq158, kq158, q158a, q158b, q158c⟩ := isOf hZ e132 F160
    obtain ⟨_, _, ⟨T158, L158, k158, n158⟩, -, X158, ⟨Lc158, hQ158, l158, y158, z158⟩, st158⟩ := X132.virtualBack hx (y := (⟨"com/example/concordat/concordat/TxStatus", "isHeuristic", "()Z"⟩ : MethodName)) (z := (⟨"com/example/concordat/concordat/TxStatus", "isHeuristic", "()Z"⟩ : MethodName)) hown (mvT hZ (hw _ (List.mem_of_getElem? (i := 35) rfl))) (mvT hZ (hw _ (List.mem_of_getElem? (i := 36) rfl))) (notFace_of_selects (args := #[]) (mvT hZ (hw _ (List.mem_of_getElem? (i := 38) rfl)))) (mvT hZ (hw _ (List.mem_of_getElem? (i := 38) rfl))) (mvT hZ (hw _ (List.mem_of_getElem? (i := 37) rfl))) (by decide) (backOf (W := 0) (own_rm_is l Z a0 hw [] a_TransactionCommitted a_TransactionHeuristicRollback a_TransactionHeuristicCommit a_TransactionHeuristicMixed a_TransactionHeuristicHazard h132 n0 Zs136 O159 S_a_TransactionHeuristicRollback S_a_TransactionHeuristicCommit S_a_TransactionHeuristicMixed S_a_TransactionHeuristicHazard) hZ (hw _ (List.mem_of_getElem? (i := 39) rfl)) (hw _ (List.mem_of_getElem? (i := 3) rfl)) (by decide) (by decide)) q158a q158c (g := (mkF m 134 #[.val (.int p1), .val (.ref b13), .val (.int (4 : Int32)), .val (.int (0 : Int32))] [(.ref a_TransactionCommitted)])) rfl (by rw [hml]; rfl) (Steps.refl _) (argsL := []) (rest := []) (lenOf own_pd0 rfl) rfl (by show 2 * 0 + _ ≤ _; exact Nat.le_of_eq rfl) (hb hby at_134) (fun _ _ => ⟨rfl, e132, (by decide : 1 + 0 ≤ _), (by decide : 15 + 0 ≤ _)⟩)
    dsimp only [Pt.U, Pt.locs, Pt.cells, Pt.slots] at X158 l158 y158 z158 st158 hQ158
    subst l158 y158 z158
    obtain ⟨N158q, rfl, eh158⟩ := hQ158
    have N161 := Fr.app N134 N158q
    refine own_tr st158 ?_
    show own_Go p e below s _ _ _ (T158.setTop (mkF m 137 #[.val (.int p1), .val (.ref b13), .val (.int (4 : Int32)), .val (.int (0 : Int32))] [(.int (own_is a_TransactionHeuristicRollback a_TransactionHeuristicCommit a_TransactionHeuristicMixed a_TransactionHeuristicHazard a_TransactionCommitted))]))
    refine own_st (fun _ k => XS.iloadN X158.here hx rfl (hb hby at_137) rfl k) ?_
    show own_Go p e below s _ _ _ (T158.setTop (mkF m 138 #[.val (.int p1), .val (.ref b13), .val (.int (4 : Int32)), .val (.int (0 : Int32))] [(.int (0 : Int32)), (.int (own_is a_TransactionHeuristicRollback a_TransactionHeuristicCommit a_TransactionHeuristicMixed a_TransactionHeuristicHazard a_TransactionCommitted))]))
    refine own_st (fun _ k => XS.icmpNo X158.here hx rfl (hb hby at_138) rfl (XT.ii_ne_f (by simp [own_is, ne_Committed_HeuristicRollback, ne_Committed_HeuristicCommit, ne_Committed_HeuristicMixed, ne_Committed_HeuristicHazard])) k) ?_
    show own_Go p e below s _ _ _ (T158.setTop (mkF m 141 #[.val (.int p1), .val (.ref b13), .val (.int (4 : Int32)), .val (.int (0 : Int32))] []))
    refine own_st (fun _ k => XT.iconstV X158.here hx rfl (1 : Int32) (hb hby at_141) (by decide) k) ?_
    show own_Go p e below s _ _ _ (T158.setTop (mkF m 142 #[.val (.int p1), .val (.ref b13), .val (.int (4 : Int32)), .val (.int (0 : Int32))] [(.int (1 : Int32))]))
    refine own_st (fun _ k => XS.goto X158.here hx rfl (pc0 := 142) (pc' := 146) rfl (hb hby at_142) (by decide) (by decide) k) ?_
    show own_Go p e below s _ _ _ (T158.setTop (mkF m 146 #[.val (.int p1), .val (.ref b13), .val (.int (4 : Int32)), .val (.int (0 : Int32))] [(.int (1 : Int32))]))
    refine own_retN X158 hx hlk Bd.returns (t := .boolean) (z' := (1 : Int32)) (by simp) (by decide) (hb hby at_146) (by decide) (by decide) ?_
    rw [eh158]
    exact ⟨N161, rfl⟩
  · rw [hi]
    show own_Go p e below s _ _ _ (T132.setTop (mkF m 113 #[.val (.int p1), .val (.ref b13), .val (.int (5 : Int32)), .unset] []))
    refine own_st (fun _ k => XS.iloadN X132.here hx rfl (hb hby at_113) rfl k) ?_
    show own_Go p e below s _ _ _ (T132.setTop (mkF m 114 #[.val (.int p1), .val (.ref b13), .val (.int (5 : Int32)), .unset] [(.int (5 : Int32))]))
    refine own_st (fun _ k => XT.bipushV X132.here hx rfl (10 : Int32) (hb hby at_114) (by decide) k) ?_
    show own_Go p e below s _ _ _ (T132.setTop (mkF m 116 #[.val (.int p1), .val (.ref b13), .val (.int (5 : Int32)), .unset] [(.int (10 : Int32)), (.int (5 : Int32))]))
    refine own_st (fun _ k => XS.icmpYes X132.here hx rfl (pc0 := 116) (pc' := 129) rfl (hb hby at_116) rfl (XT.ii_lt_t (by decide)) (by decide) (by decide) k) ?_
    show own_Go p e below s _ _ _ (T132.setTop (mkF m 129 #[.val (.int p1), .val (.ref b13), .val (.int (5 : Int32)), .unset] []))
    refine own_st (fun _ k => XT.iconstV X132.here hx rfl (0 : Int32) (hb hby at_129) (by decide) k) ?_
    show own_Go p e below s _ _ _ (T132.setTop (mkF m 130 #[.val (.int p1), .val (.ref b13), .val (.int (5 : Int32)), .unset] [(.int (0 : Int32))]))
    refine own_st (fun _ k => XS.istoreN X132.here hx rfl (hb hby at_130) rfl (l' := #[.val (.int p1), .val (.ref b13), .val (.int (5 : Int32)), .val (.int (0 : Int32))]) rfl k) ?_
    show own_Go p e below s _ _ _ (T132.setTop (mkF m 131 #[.val (.int p1), .val (.ref b13), .val (.int (5 : Int32)), .val (.int (0 : Int32))] []))
    refine own_st (fun _ k => XS.aloadN X132.here hx rfl (hb hby at_131) rfl rfl k) ?_
    show own_Go p e below s _ _ _ (T132.setTop (mkF m 132 #[.val (.int p1), .val (.ref b13), .val (.int (5 : Int32)), .val (.int (0 : Int32))] [(.ref b13)]))
    refine own_st (fun _ k => XS.iloadN X132.here hx rfl (hb hby at_132) rfl k) ?_
    show own_Go p e below s _ _ _ (T132.setTop (mkF m 133 #[.val (.int p1), .val (.ref b13), .val (.int (5 : Int32)), .val (.int (0 : Int32))] [(.int (5 : Int32)), (.ref b13)]))
    obtain ⟨cl162, Ar162, kc162, S162, Nn162, H162, G162⟩ := id F135
    have hin162 : ¬ ((5 : Int32) < 0 ∨ cl162.slots.size ≤ ((5 : Int32) : Int32).toNatClampNeg) := inb_of S162 (by decide)
    have hat162 : cl162.slots[((5 : Int32) : Int32).toNatClampNeg]? = some (.ref a_TransactionCommittedOnePhase) := H162.at hin162 rfl
    refine own_st (fun _ k => X132.aaload hx (j := (5 : Int32)) (v := (.ref a_TransactionCommittedOnePhase)) (by rw [e132]; exact Ar162.1) (State.isArrayOf_alike hZ.alike Ar162.2.1) rfl Ar162.2.2 hin162 hat162 (g := (mkF m 133 #[.val (.int p1), .val (.ref b13), .val (.int (5 : Int32)), .val (.int (0 : Int32))] [(.int (5 : Int32)), (.ref b13)])) rfl rfl (hb hby at_133) _ k) ?_
    show own_Go p e below s _ _ _ (T132.setTop (mkF m 134 #[.val (.int p1), .val (.ref b13), .val (.int (5 : Int32)), .val (.int (0 : Int32))] [(.ref a_TransactionCommittedOnePhase)]))
    have O164 : Old Z n0 h132 := (O129.wr W132 g15)
    have F165 : Exa Z h132 a_TransactionCommittedOnePhase "com/example/concordat/concordat/TxStatus" := Ex_a_TransactionCommittedOnePhase.ext O164.2
    obtain ⟨cq163, kq163, q163a, q163b, q163c⟩ := isOf hZ e132 F165
    obtain ⟨_, _, ⟨T163, L163, k163, n163⟩, -, X163, ⟨Lc163, hQ163, l163, y163, z163⟩, st163⟩ := X132.virtualBack hx (y := (⟨"com/example/concordat/concordat/TxStatus", "isHeuristic", "()Z"⟩ : MethodName)) (z := (⟨"com/example/concordat/concordat/TxStatus", "isHeuristic", "()Z"⟩ : MethodName)) hown (mvT hZ (hw _ (List.mem_of_getElem? (i := 35) rfl))) (mvT hZ (hw _ (List.mem_of_getElem? (i := 36) rfl))) (notFace_of_selects (args := #[]) (mvT hZ (hw _ (List.mem_of_getElem? (i := 38) rfl)))) (mvT hZ (hw _ (List.mem_of_getElem? (i := 38) rfl))) (mvT hZ (hw _ (List.mem_of_getElem? (i := 37) rfl))) (by decide) (backOf (W := 0) (own_rm_is l Z a0 hw [] a_TransactionCommittedOnePhase a_TransactionHeuristicRollback a_TransactionHeuristicCommit a_TransactionHeuristicMixed a_TransactionHeuristicHazard h132 n0 Zs136 O164 S_a_TransactionHeuristicRollback S_a_TransactionHeuristicCommit S_a_TransactionHeuristicMixed S_a_TransactionHeuristicHazard) hZ (hw _ (List.mem_of_getElem? (i := 39) rfl)) (hw _ (List.mem_of_getElem? (i := 3) rfl)) (by decide) (by decide)) q163a q163c (g := (mkF m 134 #[.val (.int p1), .val (.ref b13), .val (.int (5 : Int32)), .val (.int (0 : Int32))] [(.ref a_TransactionCommittedOnePhase)])) rfl (by rw [hml]; rfl) (Steps.refl _) (argsL := []) (rest := []) (lenOf own_pd0 rfl) rfl (by show 2 * 0 + _ ≤ _; exact Nat.le_of_eq rfl) (hb hby at_134) (fun _ _ => ⟨rfl, e132, (by decide : 1 + 0 ≤ _), (by decide : 15 + 0 ≤ _)⟩)
    dsimp only [Pt.U, Pt.locs, Pt.cells, Pt.slots] at X163 l163 y163 z163 st163 hQ163
    subst l163 y163 z163
    obtain ⟨N163q, rfl, eh163⟩ := hQ163
    have N166 := Fr.app N134 N163q
    refine own_tr st163 ?_
    show own_Go p e below s _ _ _ (T163.setTop (mkF m 137 #[.val (.int p1), .val (.ref b13), .val (.int (5 : Int32)), .val (.int (0 : Int32))] [(.int (own_is a_TransactionHeuristicRollback a_TransactionHeuristicCommit a_TransactionHeuristicMixed a_TransactionHeuristicHazard a_TransactionCommittedOnePhase))]))
    refine own_st (fun _ k => XS.iloadN X163.here hx rfl (hb hby at_137) rfl k) ?_
    show own_Go p e below s _ _ _ (T163.setTop (mkF m 138 #[.val (.int p1), .val (.ref b13), .val (.int (5 : Int32)), .val (.int (0 : Int32))] [(.int (0 : Int32)), (.int (own_is a_TransactionHeuristicRollback a_TransactionHeuristicCommit a_TransactionHeuristicMixed a_TransactionHeuristicHazard a_TransactionCommittedOnePhase))]))
    refine own_st (fun _ k => XS.icmpNo X163.here hx rfl (hb hby at_138) rfl (XT.ii_ne_f (by simp [own_is, ne_CommittedOnePhase_HeuristicRollback, ne_CommittedOnePhase_HeuristicCommit, ne_CommittedOnePhase_HeuristicMixed, ne_CommittedOnePhase_HeuristicHazard])) k) ?_
    show own_Go p e below s _ _ _ (T163.setTop (mkF m 141 #[.val (.int p1), .val (.ref b13), .val (.int (5 : Int32)), .val (.int (0 : Int32))] []))
    refine own_st (fun _ k => XT.iconstV X163.here hx rfl (1 : Int32) (hb hby at_141) (by decide) k) ?_
    show own_Go p e below s _ _ _ (T163.setTop (mkF m 142 #[.val (.int p1), .val (.ref b13), .val (.int (5 : Int32)), .val (.int (0 : Int32))] [(.int (1 : Int32))]))
    refine own_st (fun _ k => XS.goto X163.here hx rfl (pc0 := 142) (pc' := 146) rfl (hb hby at_142) (by decide) (by decide) k) ?_
    show own_Go p e below s _ _ _ (T163.setTop (mkF m 146 #[.val (.int p1), .val (.ref b13), .val (.int (5 : Int32)), .val (.int (0 : Int32))] [(.int (1 : Int32))]))
    refine own_retN X163 hx hlk Bd.returns (t := .boolean) (z' := (1 : Int32)) (by simp) (by decide) (hb hby at_146) (by decide) (by decide) ?_
    rw [eh163]
    exact ⟨N166, rfl⟩
  · rw [hi]
    show own_Go p e below s _ _ _ (T132.setTop (mkF m 113 #[.val (.int p1), .val (.ref b13), .val (.int (6 : Int32)), .unset] []))
    refine own_st (fun _ k => XS.iloadN X132.here hx rfl (hb hby at_113) rfl k) ?_
    show own_Go p e below s _ _ _ (T132.setTop (mkF m 114 #[.val (.int p1), .val (.ref b13), .val (.int (6 : Int32)), .unset] [(.int (6 : Int32))]))
    refine own_st (fun _ k => XT.bipushV X132.here hx rfl (10 : Int32) (hb hby at_114) (by decide) k) ?_
    show own_Go p e below s _ _ _ (T132.setTop (mkF m 116 #[.val (.int p1), .val (.ref b13), .val (.int (6 : Int32)), .unset] [(.int (10 : Int32)), (.int (6 : Int32))]))
    refine own_st (fun _ k => XS.icmpYes X132.here hx rfl (pc0 := 116) (pc' := 129) rfl (hb hby at_116) rfl (XT.ii_lt_t (by decide)) (by decide) (by decide) k) ?_
    show own_Go p e below s _ _ _ (T132.setTop (mkF m 129 #[.val (.int p1), .val (.ref b13), .val (.int (6 : Int32)), .unset] []))
    refine own_st (fun _ k => XT.iconstV X132.here hx rfl (0 : Int32) (hb hby at_129) (by decide) k) ?_
    show own_Go p e below s _ _ _ (T132.setTop (mkF m 130 #[.val (.int p1), .val (.ref b13), .val (.int (6 : Int32)), .unset] [(.int (0 : Int32))]))
    refine own_st (fun _ k => XS.istoreN X132.here hx rfl (hb hby at_130) rfl (l' := #[.val (.int p1), .val (.ref b13), .val (.int (6 : Int32)), .val (.int (0 : Int32))]) rfl k) ?_
    show own_Go p e below s _ _ _ (T132.setTop (mkF m 131 #[.val (.int p1), .val (.ref b13), .val (.int (6 : Int32)), .val (.int (0 : Int32))] []))
    refine own_st (fun _ k => XS.aloadN X132.here hx rfl (hb hby at_131) rfl rfl k) ?_
    show own_Go p e below s _ _ _ (T132.setTop (mkF m 132 #[.val (.int p1), .val (.ref b13), .val (.int (6 : Int32)), .val (.int (0 : Int32))] [(.ref b13)]))
    refine own_st (fun _ k => XS.iloadN X132.here hx rfl (hb hby at_132) rfl k) ?_
    show own_Go p e below s _ _ _ (T132.setTop (mkF m 133 #[.val (.int p1), .val (.ref b13), .val (.int (6 : Int32)), .val (.int (0 : Int32))] [(.int (6 : Int32)), (.ref b13)]))
    obtain ⟨cl167, Ar167, kc167, S167, Nn167, H167, G167⟩ := id F135
    have hin167 : ¬ ((6 : Int32) < 0 ∨ cl167.slots.size ≤ ((6 : Int32) : Int32).toNatClampNeg) := inb_of S167 (by decide)
    have hat167 : cl167.slots[((6 : Int32) : Int32).toNatClampNeg]? = some (.ref a_TransactionRollingBack) := H167.at hin167 rfl
    refine own_st (fun _ k => X132.aaload hx (j := (6 : Int32)) (v := (.ref a_TransactionRollingBack)) (by rw [e132]; exact Ar167.1) (State.isArrayOf_alike hZ.alike Ar167.2.1) rfl Ar167.2.2 hin167 hat167 (g := (mkF m 133 #[.val (.int p1), .val (.ref b13), .val (.int (6 : Int32)), .val (.int (0 : Int32))] [(.int (6 : Int32)), (.ref b13)])) rfl rfl (hb hby at_133) _ k) ?_
    show own_Go p e below s _ _ _ (T132.setTop (mkF m 134 #[.val (.int p1), .val (.ref b13), .val (.int (6 : Int32)), .val (.int (0 : Int32))] [(.ref a_TransactionRollingBack)]))
    have O169 : Old Z n0 h132 := (O129.wr W132 g15)
    have F170 : Exa Z h132 a_TransactionRollingBack "com/example/concordat/concordat/TxStatus" := Ex_a_TransactionRollingBack.ext O169.2
    obtain ⟨cq168, kq168, q168a, q168b, q168c⟩ := isOf hZ e132 F170
    obtain ⟨_, _, ⟨T168, L168, k168, n168⟩, -, X168, ⟨Lc168, hQ168, l168, y168, z168⟩, st168⟩ := X132.virtualBack hx (y := (⟨"com/example/concordat/concordat/TxStatus", "isHeuristic", "()Z"⟩ : MethodName)) (z := (⟨"com/example/concordat/concordat/TxStatus", "isHeuristic", "()Z"⟩ : MethodName)) hown (mvT hZ (hw _ (List.mem_of_getElem? (i := 35) rfl))) (mvT hZ (hw _ (List.mem_of_getElem? (i := 36) rfl))) (notFace_of_selects (args := #[]) (mvT hZ (hw _ (List.mem_of_getElem? (i := 38) rfl)))) (mvT hZ (hw _ (List.mem_of_getElem? (i := 38) rfl))) (mvT hZ (hw _ (List.mem_of_getElem? (i := 37) rfl))) (by decide) (backOf (W := 0) (own_rm_is l Z a0 hw [] a_TransactionRollingBack a_TransactionHeuristicRollback a_TransactionHeuristicCommit a_TransactionHeuristicMixed a_TransactionHeuristicHazard h132 n0 Zs136 O169 S_a_TransactionHeuristicRollback S_a_TransactionHeuristicCommit S_a_TransactionHeuristicMixed S_a_TransactionHeuristicHazard) hZ (hw _ (List.mem_of_getElem? (i := 39) rfl)) (hw _ (List.mem_of_getElem? (i := 3) rfl)) (by decide) (by decide)) q168a q168c (g := (mkF m 134 #[.val (.int p1), .val (.ref b13), .val (.int (6 : Int32)), .val (.int (0 : Int32))] [(.ref a_TransactionRollingBack)])) rfl (by rw [hml]; rfl) (Steps.refl _) (argsL := []) (rest := []) (lenOf own_pd0 rfl) rfl (by show 2 * 0 + _ ≤ _; exact Nat.le_of_eq rfl) (hb hby at_134) (fun _ _ => ⟨rfl, e132, (by decide : 1 + 0 ≤ _), (by decide : 15 + 0 ≤ _)⟩)
    dsimp only [Pt.U, Pt.locs, Pt.cells, Pt.slots] at X168 l168 y168 z168 st168 hQ168
    subst l168 y168 z168
    obtain ⟨N168q, rfl, eh168⟩ := hQ168
    have N171 := Fr.app N134 N168q
    refine own_tr st168 ?_
    show own_Go p e below s _ _ _ (T168.setTop (mkF m 137 #[.val (.int p1), .val (.ref b13), .val (.int (6 : Int32)), .val (.int (0 : Int32))] [(.int (own_is a_TransactionHeuristicRollback a_TransactionHeuristicCommit a_TransactionHeuristicMixed a_TransactionHeuristicHazard a_TransactionRollingBack))]))
    refine own_st (fun _ k => XS.iloadN X168.here hx rfl (hb hby at_137) rfl k) ?_
    show own_Go p e below s _ _ _ (T168.setTop (mkF m 138 #[.val (.int p1), .val (.ref b13), .val (.int (6 : Int32)), .val (.int (0 : Int32))] [(.int (0 : Int32)), (.int (own_is a_TransactionHeuristicRollback a_TransactionHeuristicCommit a_TransactionHeuristicMixed a_TransactionHeuristicHazard a_TransactionRollingBack))]))
    refine own_st (fun _ k => XS.icmpNo X168.here hx rfl (hb hby at_138) rfl (XT.ii_ne_f (by simp [own_is, ne_RollingBack_HeuristicRollback, ne_RollingBack_HeuristicCommit, ne_RollingBack_HeuristicMixed, ne_RollingBack_HeuristicHazard])) k) ?_
    show own_Go p e below s _ _ _ (T168.setTop (mkF m 141 #[.val (.int p1), .val (.ref b13), .val (.int (6 : Int32)), .val (.int (0 : Int32))] []))
    refine own_st (fun _ k => XT.iconstV X168.here hx rfl (1 : Int32) (hb hby at_141) (by decide) k) ?_
    show own_Go p e below s _ _ _ (T168.setTop (mkF m 142 #[.val (.int p1), .val (.ref b13), .val (.int (6 : Int32)), .val (.int (0 : Int32))] [(.int (1 : Int32))]))
    refine own_st (fun _ k => XS.goto X168.here hx rfl (pc0 := 142) (pc' := 146) rfl (hb hby at_142) (by decide) (by decide) k) ?_
    show own_Go p e below s _ _ _ (T168.setTop (mkF m 146 #[.val (.int p1), .val (.ref b13), .val (.int (6 : Int32)), .val (.int (0 : Int32))] [(.int (1 : Int32))]))
    refine own_retN X168 hx hlk Bd.returns (t := .boolean) (z' := (1 : Int32)) (by simp) (by decide) (hb hby at_146) (by decide) (by decide) ?_
    rw [eh168]
    exact ⟨N171, rfl⟩
  · rw [hi]
    show own_Go p e below s _ _ _ (T132.setTop (mkF m 113 #[.val (.int p1), .val (.ref b13), .val (.int (7 : Int32)), .unset] []))
    refine own_st (fun _ k => XS.iloadN X132.here hx rfl (hb hby at_113) rfl k) ?_
    show own_Go p e below s _ _ _ (T132.setTop (mkF m 114 #[.val (.int p1), .val (.ref b13), .val (.int (7 : Int32)), .unset] [(.int (7 : Int32))]))
    refine own_st (fun _ k => XT.bipushV X132.here hx rfl (10 : Int32) (hb hby at_114) (by decide) k) ?_
    show own_Go p e below s _ _ _ (T132.setTop (mkF m 116 #[.val (.int p1), .val (.ref b13), .val (.int (7 : Int32)), .unset] [(.int (10 : Int32)), (.int (7 : Int32))]))
    refine own_st (fun _ k => XS.icmpYes X132.here hx rfl (pc0 := 116) (pc' := 129) rfl (hb hby at_116) rfl (XT.ii_lt_t (by decide)) (by decide) (by decide) k) ?_
    show own_Go p e below s _ _ _ (T132.setTop (mkF m 129 #[.val (.int p1), .val (.ref b13), .val (.int (7 : Int32)), .unset] []))
    refine own_st (fun _ k => XT.iconstV X132.here hx rfl (0 : Int32) (hb hby at_129) (by decide) k) ?_
    show own_Go p e below s _ _ _ (T132.setTop (mkF m 130 #[.val (.int p1), .val (.ref b13), .val (.int (7 : Int32)), .unset] [(.int (0 : Int32))]))
    refine own_st (fun _ k => XS.istoreN X132.here hx rfl (hb hby at_130) rfl (l' := #[.val (.int p1), .val (.ref b13), .val (.int (7 : Int32)), .val (.int (0 : Int32))]) rfl k) ?_
    show own_Go p e below s _ _ _ (T132.setTop (mkF m 131 #[.val (.int p1), .val (.ref b13), .val (.int (7 : Int32)), .val (.int (0 : Int32))] []))
    refine own_st (fun _ k => XS.aloadN X132.here hx rfl (hb hby at_131) rfl rfl k) ?_
    show own_Go p e below s _ _ _ (T132.setTop (mkF m 132 #[.val (.int p1), .val (.ref b13), .val (.int (7 : Int32)), .val (.int (0 : Int32))] [(.ref b13)]))
    refine own_st (fun _ k => XS.iloadN X132.here hx rfl (hb hby at_132) rfl k) ?_
    show own_Go p e below s _ _ _ (T132.setTop (mkF m 133 #[.val (.int p1), .val (.ref b13), .val (.int (7 : Int32)), .val (.int (0 : Int32))] [(.int (7 : Int32)), (.ref b13)]))
    obtain ⟨cl172, Ar172, kc172, S172, Nn172, H172, G172⟩ := id F135
    have hin172 : ¬ ((7 : Int32) < 0 ∨ cl172.slots.size ≤ ((7 : Int32) : Int32).toNatClampNeg) := inb_of S172 (by decide)
    have hat172 : cl172.slots[((7 : Int32) : Int32).toNatClampNeg]? = some (.ref a_TransactionRolledBack) := H172.at hin172 rfl
    refine own_st (fun _ k => X132.aaload hx (j := (7 : Int32)) (v := (.ref a_TransactionRolledBack)) (by rw [e132]; exact Ar172.1) (State.isArrayOf_alike hZ.alike Ar172.2.1) rfl Ar172.2.2 hin172 hat172 (g := (mkF m 133 #[.val (.int p1), .val (.ref b13), .val (.int (7 : Int32)), .val (.int (0 : Int32))] [(.int (7 : Int32)), (.ref b13)])) rfl rfl (hb hby at_133) _ k) ?_
    show own_Go p e below s _ _ _ (T132.setTop (mkF m 134 #[.val (.int p1), .val (.ref b13), .val (.int (7 : Int32)), .val (.int (0 : Int32))] [(.ref a_TransactionRolledBack)]))
    have O174 : Old Z n0 h132 := (O129.wr W132 g15)
    have F175 : Exa Z h132 a_TransactionRolledBack "com/example/concordat/concordat/TxStatus" := Ex_a_TransactionRolledBack.ext O174.2
    obtain ⟨cq173, kq173, q173a, q173b, q173c⟩ := isOf hZ e132 F175
    obtain ⟨_, _, ⟨T173, L173, k173, n173⟩, -, X173, ⟨Lc173, hQ173, l173, y173, z173⟩, st173⟩ := X132.virtualBack hx (y := (⟨"com/example/concordat/concordat/TxStatus", "isHeuristic", "()Z"⟩ : MethodName)) (z := (⟨"com/example/concordat/concordat/TxStatus", "isHeuristic", "()Z"⟩ : MethodName)) hown (mvT hZ (hw _ (List.mem_of_getElem? (i := 35) rfl))) (mvT hZ (hw _ (List.mem_of_getElem? (i := 36) rfl))) (notFace_of_selects (args := #[]) (mvT hZ (hw _ (List.mem_of_getElem? (i := 38) rfl)))) (mvT hZ (hw _ (List.mem_of_getElem? (i := 38) rfl))) (mvT hZ (hw _ (List.mem_of_getElem? (i := 37) rfl))) (by decide) (backOf (W := 0) (own_rm_is l Z a0 hw [] a_TransactionRolledBack a_TransactionHeuristicRollback a_TransactionHeuristicCommit a_TransactionHeuristicMixed a_TransactionHeuristicHazard h132 n0 Zs136 O174 S_a_TransactionHeuristicRollback S_a_TransactionHeuristicCommit S_a_TransactionHeuristicMixed S_a_TransactionHeuristicHazard) hZ (hw _ (List.mem_of_getElem? (i := 39) rfl)) (hw _ (List.mem_of_getElem? (i := 3) rfl)) (by decide) (by decide)) q173a q173c (g := (mkF m 134 #[.val (.int p1), .val (.ref b13), .val (.int (7 : Int32)), .val (.int (0 : Int32))] [(.ref a_TransactionRolledBack)])) rfl (by rw [hml]; rfl) (Steps.refl _) (argsL := []) (rest := []) (lenOf own_pd0 rfl) rfl (by show 2 * 0 + _ ≤ _; exact Nat.le_of_eq rfl) (hb hby at_134) (fun _ _ => ⟨rfl, e132, (by decide : 1 + 0 ≤ _), (by decide : 15 + 0 ≤ _)⟩)
    dsimp only [Pt.U, Pt.locs, Pt.cells, Pt.slots] at X173 l173 y173 z173 st173 hQ173
    subst l173 y173 z173
    obtain ⟨N173q, rfl, eh173⟩ := hQ173
    have N176 := Fr.app N134 N173q
    refine own_tr st173 ?_
    show own_Go p e below s _ _ _ (T173.setTop (mkF m 137 #[.val (.int p1), .val (.ref b13), .val (.int (7 : Int32)), .val (.int (0 : Int32))] [(.int (own_is a_TransactionHeuristicRollback a_TransactionHeuristicCommit a_TransactionHeuristicMixed a_TransactionHeuristicHazard a_TransactionRolledBack))]))
    refine own_st (fun _ k => XS.iloadN X173.here hx rfl (hb hby at_137) rfl k) ?_
    show own_Go p e below s _ _ _ (T173.setTop (mkF m 138 #[.val (.int p1), .val (.ref b13), .val (.int (7 : Int32)), .val (.int (0 : Int32))] [(.int (0 : Int32)), (.int (own_is a_TransactionHeuristicRollback a_TransactionHeuristicCommit a_TransactionHeuristicMixed a_TransactionHeuristicHazard a_TransactionRolledBack))]))
    refine own_st (fun _ k => XS.icmpNo X173.here hx rfl (hb hby at_138) rfl (XT.ii_ne_f (by simp [own_is, ne_RolledBack_HeuristicRollback, ne_RolledBack_HeuristicCommit, ne_RolledBack_HeuristicMixed, ne_RolledBack_HeuristicHazard])) k) ?_
    show own_Go p e below s _ _ _ (T173.setTop (mkF m 141 #[.val (.int p1), .val (.ref b13), .val (.int (7 : Int32)), .val (.int (0 : Int32))] []))
    refine own_st (fun _ k => XT.iconstV X173.here hx rfl (1 : Int32) (hb hby at_141) (by decide) k) ?_
    show own_Go p e below s _ _ _ (T173.setTop (mkF m 142 #[.val (.int p1), .val (.ref b13), .val (.int (7 : Int32)), .val (.int (0 : Int32))] [(.int (1 : Int32))]))
    refine own_st (fun _ k => XS.goto X173.here hx rfl (pc0 := 142) (pc' := 146) rfl (hb hby at_142) (by decide) (by decide) k) ?_
    show own_Go p e below s _ _ _ (T173.setTop (mkF m 146 #[.val (.int p1), .val (.ref b13), .val (.int (7 : Int32)), .val (.int (0 : Int32))] [(.int (1 : Int32))]))
    refine own_retN X173 hx hlk Bd.returns (t := .boolean) (z' := (1 : Int32)) (by simp) (by decide) (hb hby at_146) (by decide) (by decide) ?_
    rw [eh173]
    exact ⟨N176, rfl⟩
  · rw [hi]
    show own_Go p e below s _ _ _ (T132.setTop (mkF m 113 #[.val (.int p1), .val (.ref b13), .val (.int (8 : Int32)), .unset] []))
    refine own_st (fun _ k => XS.iloadN X132.here hx rfl (hb hby at_113) rfl k) ?_
    show own_Go p e below s _ _ _ (T132.setTop (mkF m 114 #[.val (.int p1), .val (.ref b13), .val (.int (8 : Int32)), .unset] [(.int (8 : Int32))]))
    refine own_st (fun _ k => XT.bipushV X132.here hx rfl (10 : Int32) (hb hby at_114) (by decide) k) ?_
    show own_Go p e below s _ _ _ (T132.setTop (mkF m 116 #[.val (.int p1), .val (.ref b13), .val (.int (8 : Int32)), .unset] [(.int (10 : Int32)), (.int (8 : Int32))]))
    refine own_st (fun _ k => XS.icmpYes X132.here hx rfl (pc0 := 116) (pc' := 129) rfl (hb hby at_116) rfl (XT.ii_lt_t (by decide)) (by decide) (by decide) k) ?_
    show own_Go p e below s _ _ _ (T132.setTop (mkF m 129 #[.val (.int p1), .val (.ref b13), .val (.int (8 : Int32)), .unset] []))
    refine own_st (fun _ k => XT.iconstV X132.here hx rfl (0 : Int32) (hb hby at_129) (by decide) k) ?_
    show own_Go p e below s _ _ _ (T132.setTop (mkF m 130 #[.val (.int p1), .val (.ref b13), .val (.int (8 : Int32)), .unset] [(.int (0 : Int32))]))
    refine own_st (fun _ k => XS.istoreN X132.here hx rfl (hb hby at_130) rfl (l' := #[.val (.int p1), .val (.ref b13), .val (.int (8 : Int32)), .val (.int (0 : Int32))]) rfl k) ?_
    show own_Go p e below s _ _ _ (T132.setTop (mkF m 131 #[.val (.int p1), .val (.ref b13), .val (.int (8 : Int32)), .val (.int (0 : Int32))] []))
    refine own_st (fun _ k => XS.aloadN X132.here hx rfl (hb hby at_131) rfl rfl k) ?_
    show own_Go p e below s _ _ _ (T132.setTop (mkF m 132 #[.val (.int p1), .val (.ref b13), .val (.int (8 : Int32)), .val (.int (0 : Int32))] [(.ref b13)]))
    refine own_st (fun _ k => XS.iloadN X132.here hx rfl (hb hby at_132) rfl k) ?_
    show own_Go p e below s _ _ _ (T132.setTop (mkF m 133 #[.val (.int p1), .val (.ref b13), .val (.int (8 : Int32)), .val (.int (0 : Int32))] [(.int (8 : Int32)), (.ref b13)]))
    obtain ⟨cl177, Ar177, kc177, S177, Nn177, H177, G177⟩ := id F135
    have hin177 : ¬ ((8 : Int32) < 0 ∨ cl177.slots.size ≤ ((8 : Int32) : Int32).toNatClampNeg) := inb_of S177 (by decide)
    have hat177 : cl177.slots[((8 : Int32) : Int32).toNatClampNeg]? = some (.ref a_TransactionRollbackOnly) := H177.at hin177 rfl
    refine own_st (fun _ k => X132.aaload hx (j := (8 : Int32)) (v := (.ref a_TransactionRollbackOnly)) (by rw [e132]; exact Ar177.1) (State.isArrayOf_alike hZ.alike Ar177.2.1) rfl Ar177.2.2 hin177 hat177 (g := (mkF m 133 #[.val (.int p1), .val (.ref b13), .val (.int (8 : Int32)), .val (.int (0 : Int32))] [(.int (8 : Int32)), (.ref b13)])) rfl rfl (hb hby at_133) _ k) ?_
    show own_Go p e below s _ _ _ (T132.setTop (mkF m 134 #[.val (.int p1), .val (.ref b13), .val (.int (8 : Int32)), .val (.int (0 : Int32))] [(.ref a_TransactionRollbackOnly)]))
    have O179 : Old Z n0 h132 := (O129.wr W132 g15)
    have F180 : Exa Z h132 a_TransactionRollbackOnly "com/example/concordat/concordat/TxStatus" := Ex_a_TransactionRollbackOnly.ext O179.2
    obtain ⟨cq178, kq178, q178a, q178b, q178c⟩ := isOf hZ e132 F180
    obtain ⟨_, _, ⟨T178, L178, k178, n178⟩, -, X178, ⟨Lc178, hQ178, l178, y178, z178⟩, st178⟩ := X132.virtualBack hx (y := (⟨"com/example/concordat/concordat/TxStatus", "isHeuristic", "()Z"⟩ : MethodName)) (z := (⟨"com/example/concordat/concordat/TxStatus", "isHeuristic", "()Z"⟩ : MethodName)) hown (mvT hZ (hw _ (List.mem_of_getElem? (i := 35) rfl))) (mvT hZ (hw _ (List.mem_of_getElem? (i := 36) rfl))) (notFace_of_selects (args := #[]) (mvT hZ (hw _ (List.mem_of_getElem? (i := 38) rfl)))) (mvT hZ (hw _ (List.mem_of_getElem? (i := 38) rfl))) (mvT hZ (hw _ (List.mem_of_getElem? (i := 37) rfl))) (by decide) (backOf (W := 0) (own_rm_is l Z a0 hw [] a_TransactionRollbackOnly a_TransactionHeuristicRollback a_TransactionHeuristicCommit a_TransactionHeuristicMixed a_TransactionHeuristicHazard h132 n0 Zs136 O179 S_a_TransactionHeuristicRollback S_a_TransactionHeuristicCommit S_a_TransactionHeuristicMixed S_a_TransactionHeuristicHazard) hZ (hw _ (List.mem_of_getElem? (i := 39) rfl)) (hw _ (List.mem_of_getElem? (i := 3) rfl)) (by decide) (by decide)) q178a q178c (g := (mkF m 134 #[.val (.int p1), .val (.ref b13), .val (.int (8 : Int32)), .val (.int (0 : Int32))] [(.ref a_TransactionRollbackOnly)])) rfl (by rw [hml]; rfl) (Steps.refl _) (argsL := []) (rest := []) (lenOf own_pd0 rfl) rfl (by show 2 * 0 + _ ≤ _; exact Nat.le_of_eq rfl) (hb hby at_134) (fun _ _ => ⟨rfl, e132, (by decide : 1 + 0 ≤ _), (by decide : 15 + 0 ≤ _)⟩)
    dsimp only [Pt.U, Pt.locs, Pt.cells, Pt.slots] at X178 l178 y178 z178 st178 hQ178
    subst l178 y178 z178
    obtain ⟨N178q, rfl, eh178⟩ := hQ178
    have N181 := Fr.app N134 N178q
    refine own_tr st178 ?_
    show own_Go p e below s _ _ _ (T178.setTop (mkF m 137 #[.val (.int p1), .val (.ref b13), .val (.int (8 : Int32)), .val (.int (0 : Int32))] [(.int (own_is a_TransactionHeuristicRollback a_TransactionHeuristicCommit a_TransactionHeuristicMixed a_TransactionHeuristicHazard a_TransactionRollbackOnly))]))
    refine own_st (fun _ k => XS.iloadN X178.here hx rfl (hb hby at_137) rfl k) ?_
    show own_Go p e below s _ _ _ (T178.setTop (mkF m 138 #[.val (.int p1), .val (.ref b13), .val (.int (8 : Int32)), .val (.int (0 : Int32))] [(.int (0 : Int32)), (.int (own_is a_TransactionHeuristicRollback a_TransactionHeuristicCommit a_TransactionHeuristicMixed a_TransactionHeuristicHazard a_TransactionRollbackOnly))]))
    refine own_st (fun _ k => XS.icmpNo X178.here hx rfl (hb hby at_138) rfl (XT.ii_ne_f (by simp [own_is, ne_RollbackOnly_HeuristicRollback, ne_RollbackOnly_HeuristicCommit, ne_RollbackOnly_HeuristicMixed, ne_RollbackOnly_HeuristicHazard])) k) ?_
    show own_Go p e below s _ _ _ (T178.setTop (mkF m 141 #[.val (.int p1), .val (.ref b13), .val (.int (8 : Int32)), .val (.int (0 : Int32))] []))
    refine own_st (fun _ k => XT.iconstV X178.here hx rfl (1 : Int32) (hb hby at_141) (by decide) k) ?_
    show own_Go p e below s _ _ _ (T178.setTop (mkF m 142 #[.val (.int p1), .val (.ref b13), .val (.int (8 : Int32)), .val (.int (0 : Int32))] [(.int (1 : Int32))]))
    refine own_st (fun _ k => XS.goto X178.here hx rfl (pc0 := 142) (pc' := 146) rfl (hb hby at_142) (by decide) (by decide) k) ?_
    show own_Go p e below s _ _ _ (T178.setTop (mkF m 146 #[.val (.int p1), .val (.ref b13), .val (.int (8 : Int32)), .val (.int (0 : Int32))] [(.int (1 : Int32))]))
    refine own_retN X178 hx hlk Bd.returns (t := .boolean) (z' := (1 : Int32)) (by simp) (by decide) (hb hby at_146) (by decide) (by decide) ?_
    rw [eh178]
    exact ⟨N181, rfl⟩
  · rw [hi]
    show own_Go p e below s _ _ _ (T132.setTop (mkF m 113 #[.val (.int p1), .val (.ref b13), .val (.int (9 : Int32)), .unset] []))
    refine own_st (fun _ k => XS.iloadN X132.here hx rfl (hb hby at_113) rfl k) ?_
    show own_Go p e below s _ _ _ (T132.setTop (mkF m 114 #[.val (.int p1), .val (.ref b13), .val (.int (9 : Int32)), .unset] [(.int (9 : Int32))]))
    refine own_st (fun _ k => XT.bipushV X132.here hx rfl (10 : Int32) (hb hby at_114) (by decide) k) ?_
    show own_Go p e below s _ _ _ (T132.setTop (mkF m 116 #[.val (.int p1), .val (.ref b13), .val (.int (9 : Int32)), .unset] [(.int (10 : Int32)), (.int (9 : Int32))]))
    refine own_st (fun _ k => XS.icmpYes X132.here hx rfl (pc0 := 116) (pc' := 129) rfl (hb hby at_116) rfl (XT.ii_lt_t (by decide)) (by decide) (by decide) k) ?_
    show own_Go p e below s _ _ _ (T132.setTop (mkF m 129 #[.val (.int p1), .val (.ref b13), .val (.int (9 : Int32)), .unset] []))
    refine own_st (fun _ k => XT.iconstV X132.here hx rfl (0 : Int32) (hb hby at_129) (by decide) k) ?_
    show own_Go p e below s _ _ _ (T132.setTop (mkF m 130 #[.val (.int p1), .val (.ref b13), .val (.int (9 : Int32)), .unset] [(.int (0 : Int32))]))
    refine own_st (fun _ k => XS.istoreN X132.here hx rfl (hb hby at_130) rfl (l' := #[.val (.int p1), .val (.ref b13), .val (.int (9 : Int32)), .val (.int (0 : Int32))]) rfl k) ?_
    show own_Go p e below s _ _ _ (T132.setTop (mkF m 131 #[.val (.int p1), .val (.ref b13), .val (.int (9 : Int32)), .val (.int (0 : Int32))] []))
    refine own_st (fun _ k => XS.aloadN X132.here hx rfl (hb hby at_131) rfl rfl k) ?_
    show own_Go p e below s _ _ _ (T132.setTop (mkF m 132 #[.val (.int p1), .val (.ref b13), .val (.int (9 : Int32)), .val (.int (0 : Int32))] [(.ref b13)]))
    refine own_st (fun _ k => XS.iloadN X132.here hx rfl (hb hby at_132) rfl k) ?_
    show own_Go p e below s _ _ _ (T132.setTop (mkF m 133 #[.val (.int p1), .val (.ref b13), .val (.int (9 : Int32)), .val (.int (0 : Int32))] [(.int (9 : Int32)), (.ref b13)]))
    obtain ⟨cl182, Ar182, kc182, S182, Nn182, H182, G182⟩ := id F135
    have hin182 : ¬ ((9 : Int32) < 0 ∨ cl182.slots.size ≤ ((9 : Int32) : Int32).toNatClampNeg) := inb_of S182 (by decide)
    have hat182 : cl182.slots[((9 : Int32) : Int32).toNatClampNeg]? = some (.ref a_TransactionReadOnly) := H182.at hin182 rfl
    refine own_st (fun _ k => X132.aaload hx (j := (9 : Int32)) (v := (.ref a_TransactionReadOnly)) (by rw [e132]; exact Ar182.1) (State.isArrayOf_alike hZ.alike Ar182.2.1) rfl Ar182.2.2 hin182 hat182 (g := (mkF m 133 #[.val (.int p1), .val (.ref b13), .val (.int (9 : Int32)), .val (.int (0 : Int32))] [(.int (9 : Int32)), (.ref b13)])) rfl rfl (hb hby at_133) _ k) ?_
    show own_Go p e below s _ _ _ (T132.setTop (mkF m 134 #[.val (.int p1), .val (.ref b13), .val (.int (9 : Int32)), .val (.int (0 : Int32))] [(.ref a_TransactionReadOnly)]))
    have O184 : Old Z n0 h132 := (O129.wr W132 g15)
    have F185 : Exa Z h132 a_TransactionReadOnly "com/example/concordat/concordat/TxStatus" := Ex_a_TransactionReadOnly.ext O184.2
    obtain ⟨cq183, kq183, q183a, q183b, q183c⟩ := isOf hZ e132 F185
    obtain ⟨_, _, ⟨T183, L183, k183, n183⟩, -, X183, ⟨Lc183, hQ183, l183, y183, z183⟩, st183⟩ := X132.virtualBack hx (y := (⟨"com/example/concordat/concordat/TxStatus", "isHeuristic", "()Z"⟩ : MethodName)) (z := (⟨"com/example/concordat/concordat/TxStatus", "isHeuristic", "()Z"⟩ : MethodName)) hown (mvT hZ (hw _ (List.mem_of_getElem? (i := 35) rfl))) (mvT hZ (hw _ (List.mem_of_getElem? (i := 36) rfl))) (notFace_of_selects (args := #[]) (mvT hZ (hw _ (List.mem_of_getElem? (i := 38) rfl)))) (mvT hZ (hw _ (List.mem_of_getElem? (i := 38) rfl))) (mvT hZ (hw _ (List.mem_of_getElem? (i := 37) rfl))) (by decide) (backOf (W := 0) (own_rm_is l Z a0 hw [] a_TransactionReadOnly a_TransactionHeuristicRollback a_TransactionHeuristicCommit a_TransactionHeuristicMixed a_TransactionHeuristicHazard h132 n0 Zs136 O184 S_a_TransactionHeuristicRollback S_a_TransactionHeuristicCommit S_a_TransactionHeuristicMixed S_a_TransactionHeuristicHazard) hZ (hw _ (List.mem_of_getElem? (i := 39) rfl)) (hw _ (List.mem_of_getElem? (i := 3) rfl)) (by decide) (by decide)) q183a q183c (g := (mkF m 134 #[.val (.int p1), .val (.ref b13), .val (.int (9 : Int32)), .val (.int (0 : Int32))] [(.ref a_TransactionReadOnly)])) rfl (by rw [hml]; rfl) (Steps.refl _) (argsL := []) (rest := []) (lenOf own_pd0 rfl) rfl (by show 2 * 0 + _ ≤ _; exact Nat.le_of_eq rfl) (hb hby at_134) (fun _ _ => ⟨rfl, e132, (by decide : 1 + 0 ≤ _), (by decide : 15 + 0 ≤ _)⟩)
    dsimp only [Pt.U, Pt.locs, Pt.cells, Pt.slots] at X183 l183 y183 z183 st183 hQ183
    subst l183 y183 z183
    obtain ⟨N183q, rfl, eh183⟩ := hQ183
    have N186 := Fr.app N134 N183q
    refine own_tr st183 ?_
    show own_Go p e below s _ _ _ (T183.setTop (mkF m 137 #[.val (.int p1), .val (.ref b13), .val (.int (9 : Int32)), .val (.int (0 : Int32))] [(.int (own_is a_TransactionHeuristicRollback a_TransactionHeuristicCommit a_TransactionHeuristicMixed a_TransactionHeuristicHazard a_TransactionReadOnly))]))
    refine own_st (fun _ k => XS.iloadN X183.here hx rfl (hb hby at_137) rfl k) ?_
    show own_Go p e below s _ _ _ (T183.setTop (mkF m 138 #[.val (.int p1), .val (.ref b13), .val (.int (9 : Int32)), .val (.int (0 : Int32))] [(.int (0 : Int32)), (.int (own_is a_TransactionHeuristicRollback a_TransactionHeuristicCommit a_TransactionHeuristicMixed a_TransactionHeuristicHazard a_TransactionReadOnly))]))
    refine own_st (fun _ k => XS.icmpNo X183.here hx rfl (hb hby at_138) rfl (XT.ii_ne_f (by simp [own_is, ne_ReadOnly_HeuristicRollback, ne_ReadOnly_HeuristicCommit, ne_ReadOnly_HeuristicMixed, ne_ReadOnly_HeuristicHazard])) k) ?_
    show own_Go p e below s _ _ _ (T183.setTop (mkF m 141 #[.val (.int p1), .val (.ref b13), .val (.int (9 : Int32)), .val (.int (0 : Int32))] []))
    refine own_st (fun _ k => XT.iconstV X183.here hx rfl (1 : Int32) (hb hby at_141) (by decide) k) ?_
    show own_Go p e below s _ _ _ (T183.setTop (mkF m 142 #[.val (.int p1), .val (.ref b13), .val (.int (9 : Int32)), .val (.int (0 : Int32))] [(.int (1 : Int32))]))
    refine own_st (fun _ k => XS.goto X183.here hx rfl (pc0 := 142) (pc' := 146) rfl (hb hby at_142) (by decide) (by decide) k) ?_
    show own_Go p e below s _ _ _ (T183.setTop (mkF m 146 #[.val (.int p1), .val (.ref b13), .val (.int (9 : Int32)), .val (.int (0 : Int32))] [(.int (1 : Int32))]))
    refine own_retN X183 hx hlk Bd.returns (t := .boolean) (z' := (1 : Int32)) (by simp) (by decide) (hb hby at_146) (by decide) (by decide) ?_
    rw [eh183]
    exact ⟨N186, rfl⟩
  · rw [hi]
    show own_Go p e below s _ _ _ (T132.setTop (mkF m 113 #[.val (.int p1), .val (.ref b13), .val (.int (10 : Int32)), .unset] []))
    refine own_st (fun _ k => XS.iloadN X132.here hx rfl (hb hby at_113) rfl k) ?_
    show own_Go p e below s _ _ _ (T132.setTop (mkF m 114 #[.val (.int p1), .val (.ref b13), .val (.int (10 : Int32)), .unset] [(.int (10 : Int32))]))
    refine own_st (fun _ k => XT.bipushV X132.here hx rfl (10 : Int32) (hb hby at_114) (by decide) k) ?_
    show own_Go p e below s _ _ _ (T132.setTop (mkF m 116 #[.val (.int p1), .val (.ref b13), .val (.int (10 : Int32)), .unset] [(.int (10 : Int32)), (.int (10 : Int32))]))
    refine own_st (fun _ k => XS.icmpNo X132.here hx rfl (hb hby at_116) rfl (XT.ii_lt_f (by decide)) k) ?_
    show own_Go p e below s _ _ _ (T132.setTop (mkF m 119 #[.val (.int p1), .val (.ref b13), .val (.int (10 : Int32)), .unset] []))
    refine own_st (fun _ k => XS.iloadN X132.here hx rfl (hb hby at_119) rfl k) ?_
    show own_Go p e below s _ _ _ (T132.setTop (mkF m 120 #[.val (.int p1), .val (.ref b13), .val (.int (10 : Int32)), .unset] [(.int (10 : Int32))]))
    refine own_st (fun _ k => XT.bipushV X132.here hx rfl (13 : Int32) (hb hby at_120) (by decide) k) ?_
    show own_Go p e below s _ _ _ (T132.setTop (mkF m 122 #[.val (.int p1), .val (.ref b13), .val (.int (10 : Int32)), .unset] [(.int (13 : Int32)), (.int (10 : Int32))]))
    refine own_st (fun _ k => XS.icmpNo X132.here hx rfl (hb hby at_122) rfl (XT.ii_gt_f (by decide)) k) ?_
    show own_Go p e below s _ _ _ (T132.setTop (mkF m 125 #[.val (.int p1), .val (.ref b13), .val (.int (10 : Int32)), .unset] []))
    refine own_st (fun _ k => XT.iconstV X132.here hx rfl (1 : Int32) (hb hby at_125) (by decide) k) ?_
    show own_Go p e below s _ _ _ (T132.setTop (mkF m 126 #[.val (.int p1), .val (.ref b13), .val (.int (10 : Int32)), .unset] [(.int (1 : Int32))]))
    refine own_st (fun _ k => XS.goto X132.here hx rfl (pc0 := 126) (pc' := 130) rfl (hb hby at_126) (by decide) (by decide) k) ?_
    show own_Go p e below s _ _ _ (T132.setTop (mkF m 130 #[.val (.int p1), .val (.ref b13), .val (.int (10 : Int32)), .unset] [(.int (1 : Int32))]))
    refine own_st (fun _ k => XS.istoreN X132.here hx rfl (hb hby at_130) rfl (l' := #[.val (.int p1), .val (.ref b13), .val (.int (10 : Int32)), .val (.int (1 : Int32))]) rfl k) ?_
    show own_Go p e below s _ _ _ (T132.setTop (mkF m 131 #[.val (.int p1), .val (.ref b13), .val (.int (10 : Int32)), .val (.int (1 : Int32))] []))
    refine own_st (fun _ k => XS.aloadN X132.here hx rfl (hb hby at_131) rfl rfl k) ?_
    show own_Go p e below s _ _ _ (T132.setTop (mkF m 132 #[.val (.int p1), .val (.ref b13), .val (.int (10 : Int32)), .val (.int (1 : Int32))] [(.ref b13)]))
    refine own_st (fun _ k => XS.iloadN X132.here hx rfl (hb hby at_132) rfl k) ?_
    show own_Go p e below s _ _ _ (T132.setTop (mkF m 133 #[.val (.int p1), .val (.ref b13), .val (.int (10 : Int32)), .val (.int (1 : Int32))] [(.int (10 : Int32)), (.ref b13)]))
    obtain ⟨cl187, Ar187, kc187, S187, Nn187, H187, G187⟩ := id F135
    have hin187 : ¬ ((10 : Int32) < 0 ∨ cl187.slots.size ≤ ((10 : Int32) : Int32).toNatClampNeg) := inb_of S187 (by decide)
    have hat187 : cl187.slots[((10 : Int32) : Int32).toNatClampNeg]? = some (.ref a_TransactionHeuristicRollback) := H187.at hin187 rfl
    refine own_st (fun _ k => X132.aaload hx (j := (10 : Int32)) (v := (.ref a_TransactionHeuristicRollback)) (by rw [e132]; exact Ar187.1) (State.isArrayOf_alike hZ.alike Ar187.2.1) rfl Ar187.2.2 hin187 hat187 (g := (mkF m 133 #[.val (.int p1), .val (.ref b13), .val (.int (10 : Int32)), .val (.int (1 : Int32))] [(.int (10 : Int32)), (.ref b13)])) rfl rfl (hb hby at_133) _ k) ?_
    show own_Go p e below s _ _ _ (T132.setTop (mkF m 134 #[.val (.int p1), .val (.ref b13), .val (.int (10 : Int32)), .val (.int (1 : Int32))] [(.ref a_TransactionHeuristicRollback)]))
    have O189 : Old Z n0 h132 := (O129.wr W132 g15)
    have F190 : Exa Z h132 a_TransactionHeuristicRollback "com/example/concordat/concordat/TxStatus" := Ex_a_TransactionHeuristicRollback.ext O189.2
    obtain ⟨cq188, kq188, q188a, q188b, q188c⟩ := isOf hZ e132 F190
    obtain ⟨_, _, ⟨T188, L188, k188, n188⟩, -, X188, ⟨Lc188, hQ188, l188, y188, z188⟩, st188⟩ := X132.virtualBack hx (y := (⟨"com/example/concordat/concordat/TxStatus", "isHeuristic", "()Z"⟩ : MethodName)) (z := (⟨"com/example/concordat/concordat/TxStatus", "isHeuristic", "()Z"⟩ : MethodName)) hown (mvT hZ (hw _ (List.mem_of_getElem? (i := 35) rfl))) (mvT hZ (hw _ (List.mem_of_getElem? (i := 36) rfl))) (notFace_of_selects (args := #[]) (mvT hZ (hw _ (List.mem_of_getElem? (i := 38) rfl)))) (mvT hZ (hw _ (List.mem_of_getElem? (i := 38) rfl))) (mvT hZ (hw _ (List.mem_of_getElem? (i := 37) rfl))) (by decide) (backOf (W := 0) (own_rm_is l Z a0 hw [] a_TransactionHeuristicRollback a_TransactionHeuristicRollback a_TransactionHeuristicCommit a_TransactionHeuristicMixed a_TransactionHeuristicHazard h132 n0 Zs136 O189 S_a_TransactionHeuristicRollback S_a_TransactionHeuristicCommit S_a_TransactionHeuristicMixed S_a_TransactionHeuristicHazard) hZ (hw _ (List.mem_of_getElem? (i := 39) rfl)) (hw _ (List.mem_of_getElem? (i := 3) rfl)) (by decide) (by decide)) q188a q188c (g := (mkF m 134 #[.val (.int p1), .val (.ref b13), .val (.int (10 : Int32)), .val (.int (1 : Int32))] [(.ref a_TransactionHeuristicRollback)])) rfl (by rw [hml]; rfl) (Steps.refl _) (argsL := []) (rest := []) (lenOf own_pd0 rfl) rfl (by show 2 * 0 + _ ≤ _; exact Nat.le_of_eq rfl) (hb hby at_134) (fun _ _ => ⟨rfl, e132, (by decide : 1 + 0 ≤ _), (by decide : 15 + 0 ≤ _)⟩)
    dsimp only [Pt.U, Pt.locs, Pt.cells, Pt.slots] at X188 l188 y188 z188 st188 hQ188
    subst l188 y188 z188
    obtain ⟨N188q, rfl, eh188⟩ := hQ188
    have N191 := Fr.app N134 N188q
    refine own_tr st188 ?_
    show own_Go p e below s _ _ _ (T188.setTop (mkF m 137 #[.val (.int p1), .val (.ref b13), .val (.int (10 : Int32)), .val (.int (1 : Int32))] [(.int (own_is a_TransactionHeuristicRollback a_TransactionHeuristicCommit a_TransactionHeuristicMixed a_TransactionHeuristicHazard a_TransactionHeuristicRollback))]))
    refine own_st (fun _ k => XS.iloadN X188.here hx rfl (hb hby at_137) rfl k) ?_
    show own_Go p e below s _ _ _ (T188.setTop (mkF m 138 #[.val (.int p1), .val (.ref b13), .val (.int (10 : Int32)), .val (.int (1 : Int32))] [(.int (1 : Int32)), (.int (own_is a_TransactionHeuristicRollback a_TransactionHeuristicCommit a_TransactionHeuristicMixed a_TransactionHeuristicHazard a_TransactionHeuristicRollback))]))
    refine own_st (fun _ k => XS.icmpNo X188.here hx rfl (hb hby at_138) rfl (XT.ii_ne_f (by simp [own_is, ne_HeuristicRollback_HeuristicCommit, ne_HeuristicRollback_HeuristicMixed, ne_HeuristicRollback_HeuristicHazard])) k) ?_
    show own_Go p e below s _ _ _ (T188.setTop (mkF m 141 #[.val (.int p1), .val (.ref b13), .val (.int (10 : Int32)), .val (.int (1 : Int32))] []))
    refine own_st (fun _ k => XT.iconstV X188.here hx rfl (1 : Int32) (hb hby at_141) (by decide) k) ?_
    show own_Go p e below s _ _ _ (T188.setTop (mkF m 142 #[.val (.int p1), .val (.ref b13), .val (.int (10 : Int32)), .val (.int (1 : Int32))] [(.int (1 : Int32))]))
    refine own_st (fun _ k => XS.goto X188.here hx rfl (pc0 := 142) (pc' := 146) rfl (hb hby at_142) (by decide) (by decide) k) ?_
    show own_Go p e below s _ _ _ (T188.setTop (mkF m 146 #[.val (.int p1), .val (.ref b13), .val (.int (10 : Int32)), .val (.int (1 : Int32))] [(.int (1 : Int32))]))
    refine own_retN X188 hx hlk Bd.returns (t := .boolean) (z' := (1 : Int32)) (by simp) (by decide) (hb hby at_146) (by decide) (by decide) ?_
    rw [eh188]
    exact ⟨N191, rfl⟩
  · rw [hi]
    show own_Go p e below s _ _ _ (T132.setTop (mkF m 113 #[.val (.int p1), .val (.ref b13), .val (.int (11 : Int32)), .unset] []))
    refine own_st (fun _ k => XS.iloadN X132.here hx rfl (hb hby at_113) rfl k) ?_
    show own_Go p e below s _ _ _ (T132.setTop (mkF m 114 #[.val (.int p1), .val (.ref b13), .val (.int (11 : Int32)), .unset] [(.int (11 : Int32))]))
    refine own_st (fun _ k => XT.bipushV X132.here hx rfl (10 : Int32) (hb hby at_114) (by decide) k) ?_
    show own_Go p e below s _ _ _ (T132.setTop (mkF m 116 #[.val (.int p1), .val (.ref b13), .val (.int (11 : Int32)), .unset] [(.int (10 : Int32)), (.int (11 : Int32))]))
    refine own_st (fun _ k => XS.icmpNo X132.here hx rfl (hb hby at_116) rfl (XT.ii_lt_f (by decide)) k) ?_
    show own_Go p e below s _ _ _ (T132.setTop (mkF m 119 #[.val (.int p1), .val (.ref b13), .val (.int (11 : Int32)), .unset] []))
    refine own_st (fun _ k => XS.iloadN X132.here hx rfl (hb hby at_119) rfl k) ?_
    show own_Go p e below s _ _ _ (T132.setTop (mkF m 120 #[.val (.int p1), .val (.ref b13), .val (.int (11 : Int32)), .unset] [(.int (11 : Int32))]))
    refine own_st (fun _ k => XT.bipushV X132.here hx rfl (13 : Int32) (hb hby at_120) (by decide) k) ?_
    show own_Go p e below s _ _ _ (T132.setTop (mkF m 122 #[.val (.int p1), .val (.ref b13), .val (.int (11 : Int32)), .unset] [(.int (13 : Int32)), (.int (11 : Int32))]))
    refine own_st (fun _ k => XS.icmpNo X132.here hx rfl (hb hby at_122) rfl (XT.ii_gt_f (by decide)) k) ?_
    show own_Go p e below s _ _ _ (T132.setTop (mkF m 125 #[.val (.int p1), .val (.ref b13), .val (.int (11 : Int32)), .unset] []))
    refine own_st (fun _ k => XT.iconstV X132.here hx rfl (1 : Int32) (hb hby at_125) (by decide) k) ?_
    show own_Go p e below s _ _ _ (T132.setTop (mkF m 126 #[.val (.int p1), .val (.ref b13), .val (.int (11 : Int32)), .unset] [(.int (1 : Int32))]))
    refine own_st (fun _ k => XS.goto X132.here hx rfl (pc0 := 126) (pc' := 130) rfl (hb hby at_126) (by decide) (by decide) k) ?_
    show own_Go p e below s _ _ _ (T132.setTop (mkF m 130 #[.val (.int p1), .val (.ref b13), .val (.int (11 : Int32)), .unset] [(.int (1 : Int32))]))
    refine own_st (fun _ k => XS.istoreN X132.here hx rfl (hb hby at_130) rfl (l' := #[.val (.int p1), .val (.ref b13), .val (.int (11 : Int32)), .val (.int (1 : Int32))]) rfl k) ?_
    show own_Go p e below s _ _ _ (T132.setTop (mkF m 131 #[.val (.int p1), .val (.ref b13), .val (.int (11 : Int32)), .val (.int (1 : Int32))] []))
    refine own_st (fun _ k => XS.aloadN X132.here hx rfl (hb hby at_131) rfl rfl k) ?_
    show own_Go p e below s _ _ _ (T132.setTop (mkF m 132 #[.val (.int p1), .val (.ref b13), .val (.int (11 : Int32)), .val (.int (1 : Int32))] [(.ref b13)]))
    refine own_st (fun _ k => XS.iloadN X132.here hx rfl (hb hby at_132) rfl k) ?_
    show own_Go p e below s _ _ _ (T132.setTop (mkF m 133 #[.val (.int p1), .val (.ref b13), .val (.int (11 : Int32)), .val (.int (1 : Int32))] [(.int (11 : Int32)), (.ref b13)]))
    obtain ⟨cl192, Ar192, kc192, S192, Nn192, H192, G192⟩ := id F135
    have hin192 : ¬ ((11 : Int32) < 0 ∨ cl192.slots.size ≤ ((11 : Int32) : Int32).toNatClampNeg) := inb_of S192 (by decide)
    have hat192 : cl192.slots[((11 : Int32) : Int32).toNatClampNeg]? = some (.ref a_TransactionHeuristicCommit) := H192.at hin192 rfl
    refine own_st (fun _ k => X132.aaload hx (j := (11 : Int32)) (v := (.ref a_TransactionHeuristicCommit)) (by rw [e132]; exact Ar192.1) (State.isArrayOf_alike hZ.alike Ar192.2.1) rfl Ar192.2.2 hin192 hat192 (g := (mkF m 133 #[.val (.int p1), .val (.ref b13), .val (.int (11 : Int32)), .val (.int (1 : Int32))] [(.int (11 : Int32)), (.ref b13)])) rfl rfl (hb hby at_133) _ k) ?_
    show own_Go p e below s _ _ _ (T132.setTop (mkF m 134 #[.val (.int p1), .val (.ref b13), .val (.int (11 : Int32)), .val (.int (1 : Int32))] [(.ref a_TransactionHeuristicCommit)]))
    have O194 : Old Z n0 h132 := (O129.wr W132 g15)
    have F195 : Exa Z h132 a_TransactionHeuristicCommit "com/example/concordat/concordat/TxStatus" := Ex_a_TransactionHeuristicCommit.ext O194.2
    obtain ⟨cq193, kq193, q193a, q193b, q193c⟩ := isOf hZ e132 F195
    obtain ⟨_, _, ⟨T193, L193, k193, n193⟩, -, X193, ⟨Lc193, hQ193, l193, y193, z193⟩, st193⟩ := X132.virtualBack hx (y := (⟨"com/example/concordat/concordat/TxStatus", "isHeuristic", "()Z"⟩ : MethodName)) (z := (⟨"com/example/concordat/concordat/TxStatus", "isHeuristic", "()Z"⟩ : MethodName)) hown (mvT hZ (hw _ (List.mem_of_getElem? (i := 35) rfl))) (mvT hZ (hw _ (List.mem_of_getElem? (i := 36) rfl))) (notFace_of_selects (args := #[]) (mvT hZ (hw _ (List.mem_of_getElem? (i := 38) rfl)))) (mvT hZ (hw _ (List.mem_of_getElem? (i := 38) rfl))) (mvT hZ (hw _ (List.mem_of_getElem? (i := 37) rfl))) (by decide) (backOf (W := 0) (own_rm_is l Z a0 hw [] a_TransactionHeuristicCommit a_TransactionHeuristicRollback a_TransactionHeuristicCommit a_TransactionHeuristicMixed a_TransactionHeuristicHazard h132 n0 Zs136 O194 S_a_TransactionHeuristicRollback S_a_TransactionHeuristicCommit S_a_TransactionHeuristicMixed S_a_TransactionHeuristicHazard) hZ (hw _ (List.mem_of_getElem? (i := 39) rfl)) (hw _ (List.mem_of_getElem? (i := 3) rfl)) (by decide) (by decide)) q193a q193c (g := (mkF m 134 #[.val (.int p1), .val (.ref b13), .val (.int (11 : Int32)), .val (.int (1 : Int32))] [(.ref a_TransactionHeuristicCommit)])) rfl (by rw [hml]; rfl) (Steps.refl _) (argsL := []) (rest := []) (lenOf own_pd0 rfl) rfl (by show 2 * 0 + _ ≤ _; exact Nat.le_of_eq rfl) (hb hby at_134) (fun _ _ => ⟨rfl, e132, (by decide : 1 + 0 ≤ _), (by decide : 15 + 0 ≤ _)⟩)
    dsimp only [Pt.U, Pt.locs, Pt.cells, Pt.slots] at X193 l193 y193 z193 st193 hQ193
    subst l193 y193 z193
    obtain ⟨N193q, rfl, eh193⟩ := hQ193
    have N196 := Fr.app N134 N193q
    refine own_tr st193 ?_
    show own_Go p e below s _ _ _ (T193.setTop (mkF m 137 #[.val (.int p1), .val (.ref b13), .val (.int (11 : Int32)), .val (.int (1 : Int32))] [(.int (own_is a_TransactionHeuristicRollback a_TransactionHeuristicCommit a_TransactionHeuristicMixed a_TransactionHeuristicHazard a_TransactionHeuristicCommit))]))
    refine own_st (fun _ k => XS.iloadN X193.here hx rfl (hb hby at_137) rfl k) ?_
    show own_Go p e below s _ _ _ (T193.setTop (mkF m 138 #[.val (.int p1), .val (.ref b13), .val (.int (11 : Int32)), .val (.int (1 : Int32))] [(.int (1 : Int32)), (.int (own_is a_TransactionHeuristicRollback a_TransactionHeuristicCommit a_TransactionHeuristicMixed a_TransactionHeuristicHazard a_TransactionHeuristicCommit))]))
    refine own_st (fun _ k => XS.icmpNo X193.here hx rfl (hb hby at_138) rfl (XT.ii_ne_f (by simp [own_is, ne_HeuristicCommit_HeuristicRollback, ne_HeuristicCommit_HeuristicMixed, ne_HeuristicCommit_HeuristicHazard])) k) ?_
    show own_Go p e below s _ _ _ (T193.setTop (mkF m 141 #[.val (.int p1), .val (.ref b13), .val (.int (11 : Int32)), .val (.int (1 : Int32))] []))
    refine own_st (fun _ k => XT.iconstV X193.here hx rfl (1 : Int32) (hb hby at_141) (by decide) k) ?_
    show own_Go p e below s _ _ _ (T193.setTop (mkF m 142 #[.val (.int p1), .val (.ref b13), .val (.int (11 : Int32)), .val (.int (1 : Int32))] [(.int (1 : Int32))]))
    refine own_st (fun _ k => XS.goto X193.here hx rfl (pc0 := 142) (pc' := 146) rfl (hb hby at_142) (by decide) (by decide) k) ?_
    show own_Go p e below s _ _ _ (T193.setTop (mkF m 146 #[.val (.int p1), .val (.ref b13), .val (.int (11 : Int32)), .val (.int (1 : Int32))] [(.int (1 : Int32))]))
    refine own_retN X193 hx hlk Bd.returns (t := .boolean) (z' := (1 : Int32)) (by simp) (by decide) (hb hby at_146) (by decide) (by decide) ?_
    rw [eh193]
    exact ⟨N196, rfl⟩
  · rw [hi]
    show own_Go p e below s _ _ _ (T132.setTop (mkF m 113 #[.val (.int p1), .val (.ref b13), .val (.int (12 : Int32)), .unset] []))
    refine own_st (fun _ k => XS.iloadN X132.here hx rfl (hb hby at_113) rfl k) ?_
    show own_Go p e below s _ _ _ (T132.setTop (mkF m 114 #[.val (.int p1), .val (.ref b13), .val (.int (12 : Int32)), .unset] [(.int (12 : Int32))]))
    refine own_st (fun _ k => XT.bipushV X132.here hx rfl (10 : Int32) (hb hby at_114) (by decide) k) ?_
    show own_Go p e below s _ _ _ (T132.setTop (mkF m 116 #[.val (.int p1), .val (.ref b13), .val (.int (12 : Int32)), .unset] [(.int (10 : Int32)), (.int (12 : Int32))]))
    refine own_st (fun _ k => XS.icmpNo X132.here hx rfl (hb hby at_116) rfl (XT.ii_lt_f (by decide)) k) ?_
    show own_Go p e below s _ _ _ (T132.setTop (mkF m 119 #[.val (.int p1), .val (.ref b13), .val (.int (12 : Int32)), .unset] []))
    refine own_st (fun _ k => XS.iloadN X132.here hx rfl (hb hby at_119) rfl k) ?_
    show own_Go p e below s _ _ _ (T132.setTop (mkF m 120 #[.val (.int p1), .val (.ref b13), .val (.int (12 : Int32)), .unset] [(.int (12 : Int32))]))
    refine own_st (fun _ k => XT.bipushV X132.here hx rfl (13 : Int32) (hb hby at_120) (by decide) k) ?_
    show own_Go p e below s _ _ _ (T132.setTop (mkF m 122 #[.val (.int p1), .val (.ref b13), .val (.int (12 : Int32)), .unset] [(.int (13 : Int32)), (.int (12 : Int32))]))
    refine own_st (fun _ k => XS.icmpNo X132.here hx rfl (hb hby at_122) rfl (XT.ii_gt_f (by decide)) k) ?_
    show own_Go p e below s _ _ _ (T132.setTop (mkF m 125 #[.val (.int p1), .val (.ref b13), .val (.int (12 : Int32)), .unset] []))
    refine own_st (fun _ k => XT.iconstV X132.here hx rfl (1 : Int32) (hb hby at_125) (by decide) k) ?_
    show own_Go p e below s _ _ _ (T132.setTop (mkF m 126 #[.val (.int p1), .val (.ref b13), .val (.int (12 : Int32)), .unset] [(.int (1 : Int32))]))
    refine own_st (fun _ k => XS.goto X132.here hx rfl (pc0 := 126) (pc' := 130) rfl (hb hby at_126) (by decide) (by decide) k) ?_
    show own_Go p e below s _ _ _ (T132.setTop (mkF m 130 #[.val (.int p1), .val (.ref b13), .val (.int (12 : Int32)), .unset] [(.int (1 : Int32))]))
    refine own_st (fun _ k => XS.istoreN X132.here hx rfl (hb hby at_130) rfl (l' := #[.val (.int p1), .val (.ref b13), .val (.int (12 : Int32)), .val (.int (1 : Int32))]) rfl k) ?_
    show own_Go p e below s _ _ _ (T132.setTop (mkF m 131 #[.val (.int p1), .val (.ref b13), .val (.int (12 : Int32)), .val (.int (1 : Int32))] []))
    refine own_st (fun _ k => XS.aloadN X132.here hx rfl (hb hby at_131) rfl rfl k) ?_
    show own_Go p e below s _ _ _ (T132.setTop (mkF m 132 #[.val (.int p1), .val (.ref b13), .val (.int (12 : Int32)), .val (.int (1 : Int32))] [(.ref b13)]))
    refine own_st (fun _ k => XS.iloadN X132.here hx rfl (hb hby at_132) rfl k) ?_
    show own_Go p e below s _ _ _ (T132.setTop (mkF m 133 #[.val (.int p1), .val (.ref b13), .val (.int (12 : Int32)), .val (.int (1 : Int32))] [(.int (12 : Int32)), (.ref b13)]))
    obtain ⟨cl197, Ar197, kc197, S197, Nn197, H197, G197⟩ := id F135
    have hin197 : ¬ ((12 : Int32) < 0 ∨ cl197.slots.size ≤ ((12 : Int32) : Int32).toNatClampNeg) := inb_of S197 (by decide)
    have hat197 : cl197.slots[((12 : Int32) : Int32).toNatClampNeg]? = some (.ref a_TransactionHeuristicMixed) := H197.at hin197 rfl
    refine own_st (fun _ k => X132.aaload hx (j := (12 : Int32)) (v := (.ref a_TransactionHeuristicMixed)) (by rw [e132]; exact Ar197.1) (State.isArrayOf_alike hZ.alike Ar197.2.1) rfl Ar197.2.2 hin197 hat197 (g := (mkF m 133 #[.val (.int p1), .val (.ref b13), .val (.int (12 : Int32)), .val (.int (1 : Int32))] [(.int (12 : Int32)), (.ref b13)])) rfl rfl (hb hby at_133) _ k) ?_
    show own_Go p e below s _ _ _ (T132.setTop (mkF m 134 #[.val (.int p1), .val (.ref b13), .val (.int (12 : Int32)), .val (.int (1 : Int32))] [(.ref a_TransactionHeuristicMixed)]))
    have O199 : Old Z n0 h132 := (O129.wr W132 g15)
    have F200 : Exa Z h132 a_TransactionHeuristicMixed "com/example/concordat/concordat/TxStatus" := Ex_a_TransactionHeuristicMixed.ext O199.2
    obtain ⟨cq198, kq198, q198a, q198b, q198c⟩ := isOf hZ e132 F200
    obtain ⟨_, _, ⟨T198, L198, k198, n198⟩, -, X198, ⟨Lc198, hQ198, l198, y198, z198⟩, st198⟩ := X132.virtualBack hx (y := (⟨"com/example/concordat/concordat/TxStatus", "isHeuristic", "()Z"⟩ : MethodName)) (z := (⟨"com/example/concordat/concordat/TxStatus", "isHeuristic", "()Z"⟩ : MethodName)) hown (mvT hZ (hw _ (List.mem_of_getElem? (i := 35) rfl))) (mvT hZ (hw _ (List.mem_of_getElem? (i := 36) rfl))) (notFace_of_selects (args := #[]) (mvT hZ (hw _ (List.mem_of_getElem? (i := 38) rfl)))) (mvT hZ (hw _ (List.mem_of_getElem? (i := 38) rfl))) (mvT hZ (hw _ (List.mem_of_getElem? (i := 37) rfl))) (by decide) (backOf (W := 0) (own_rm_is l Z a0 hw [] a_TransactionHeuristicMixed a_TransactionHeuristicRollback a_TransactionHeuristicCommit a_TransactionHeuristicMixed a_TransactionHeuristicHazard h132 n0 Zs136 O199 S_a_TransactionHeuristicRollback S_a_TransactionHeuristicCommit S_a_TransactionHeuristicMixed S_a_TransactionHeuristicHazard) hZ (hw _ (List.mem_of_getElem? (i := 39) rfl)) (hw _ (List.mem_of_getElem? (i := 3) rfl)) (by decide) (by decide)) q198a q198c (g := (mkF m 134 #[.val (.int p1), .val (.ref b13), .val (.int (12 : Int32)), .val (.int (1 : Int32))] [(.ref a_TransactionHeuristicMixed)])) rfl (by rw [hml]; rfl) (Steps.refl _) (argsL := []) (rest := []) (lenOf own_pd0 rfl) rfl (by show 2 * 0 + _ ≤ _; exact Nat.le_of_eq rfl) (hb hby at_134) (fun _ _ => ⟨rfl, e132, (by decide : 1 + 0 ≤ _), (by decide : 15 + 0 ≤ _)⟩)
    dsimp only [Pt.U, Pt.locs, Pt.cells, Pt.slots] at X198 l198 y198 z198 st198 hQ198
    subst l198 y198 z198
    obtain ⟨N198q, rfl, eh198⟩ := hQ198
    have N201 := Fr.app N134 N198q
    refine own_tr st198 ?_
    show own_Go p e below s _ _ _ (T198.setTop (mkF m 137 #[.val (.int p1), .val (.ref b13), .val (.int (12 : Int32)), .val (.int (1 : Int32))] [(.int (own_is a_TransactionHeuristicRollback a_TransactionHeuristicCommit a_TransactionHeuristicMixed a_TransactionHeuristicHazard a_TransactionHeuristicMixed))]))
    refine own_st (fun _ k => XS.iloadN X198.here hx rfl (hb hby at_137) rfl k) ?_
    show own_Go p e below s _ _ _ (T198.setTop (mkF m 138 #[.val (.int p1), .val (.ref b13), .val (.int (12 : Int32)), .val (.int (1 : Int32))] [(.int (1 : Int32)), (.int (own_is a_TransactionHeuristicRollback a_TransactionHeuristicCommit a_TransactionHeuristicMixed a_TransactionHeuristicHazard a_TransactionHeuristicMixed))]))
    refine own_st (fun _ k => XS.icmpNo X198.here hx rfl (hb hby at_138) rfl (XT.ii_ne_f (by simp [own_is, ne_HeuristicMixed_HeuristicRollback, ne_HeuristicMixed_HeuristicCommit, ne_HeuristicMixed_HeuristicHazard])) k) ?_
    show own_Go p e below s _ _ _ (T198.setTop (mkF m 141 #[.val (.int p1), .val (.ref b13), .val (.int (12 : Int32)), .val (.int (1 : Int32))] []))
    refine own_st (fun _ k => XT.iconstV X198.here hx rfl (1 : Int32) (hb hby at_141) (by decide) k) ?_
    show own_Go p e below s _ _ _ (T198.setTop (mkF m 142 #[.val (.int p1), .val (.ref b13), .val (.int (12 : Int32)), .val (.int (1 : Int32))] [(.int (1 : Int32))]))
    refine own_st (fun _ k => XS.goto X198.here hx rfl (pc0 := 142) (pc' := 146) rfl (hb hby at_142) (by decide) (by decide) k) ?_
    show own_Go p e below s _ _ _ (T198.setTop (mkF m 146 #[.val (.int p1), .val (.ref b13), .val (.int (12 : Int32)), .val (.int (1 : Int32))] [(.int (1 : Int32))]))
    refine own_retN X198 hx hlk Bd.returns (t := .boolean) (z' := (1 : Int32)) (by simp) (by decide) (hb hby at_146) (by decide) (by decide) ?_
    rw [eh198]
    exact ⟨N201, rfl⟩
  · rw [hi]
    show own_Go p e below s _ _ _ (T132.setTop (mkF m 113 #[.val (.int p1), .val (.ref b13), .val (.int (13 : Int32)), .unset] []))
    refine own_st (fun _ k => XS.iloadN X132.here hx rfl (hb hby at_113) rfl k) ?_
    show own_Go p e below s _ _ _ (T132.setTop (mkF m 114 #[.val (.int p1), .val (.ref b13), .val (.int (13 : Int32)), .unset] [(.int (13 : Int32))]))
    refine own_st (fun _ k => XT.bipushV X132.here hx rfl (10 : Int32) (hb hby at_114) (by decide) k) ?_
    show own_Go p e below s _ _ _ (T132.setTop (mkF m 116 #[.val (.int p1), .val (.ref b13), .val (.int (13 : Int32)), .unset] [(.int (10 : Int32)), (.int (13 : Int32))]))
    refine own_st (fun _ k => XS.icmpNo X132.here hx rfl (hb hby at_116) rfl (XT.ii_lt_f (by decide)) k) ?_
    show own_Go p e below s _ _ _ (T132.setTop (mkF m 119 #[.val (.int p1), .val (.ref b13), .val (.int (13 : Int32)), .unset] []))
    refine own_st (fun _ k => XS.iloadN X132.here hx rfl (hb hby at_119) rfl k) ?_
    show own_Go p e below s _ _ _ (T132.setTop (mkF m 120 #[.val (.int p1), .val (.ref b13), .val (.int (13 : Int32)), .unset] [(.int (13 : Int32))]))
    refine own_st (fun _ k => XT.bipushV X132.here hx rfl (13 : Int32) (hb hby at_120) (by decide) k) ?_
    show own_Go p e below s _ _ _ (T132.setTop (mkF m 122 #[.val (.int p1), .val (.ref b13), .val (.int (13 : Int32)), .unset] [(.int (13 : Int32)), (.int (13 : Int32))]))
    refine own_st (fun _ k => XS.icmpNo X132.here hx rfl (hb hby at_122) rfl (XT.ii_gt_f (by decide)) k) ?_
    show own_Go p e below s _ _ _ (T132.setTop (mkF m 125 #[.val (.int p1), .val (.ref b13), .val (.int (13 : Int32)), .unset] []))
    refine own_st (fun _ k => XT.iconstV X132.here hx rfl (1 : Int32) (hb hby at_125) (by decide) k) ?_
    show own_Go p e below s _ _ _ (T132.setTop (mkF m 126 #[.val (.int p1), .val (.ref b13), .val (.int (13 : Int32)), .unset] [(.int (1 : Int32))]))
    refine own_st (fun _ k => XS.goto X132.here hx rfl (pc0 := 126) (pc' := 130) rfl (hb hby at_126) (by decide) (by decide) k) ?_
    show own_Go p e below s _ _ _ (T132.setTop (mkF m 130 #[.val (.int p1), .val (.ref b13), .val (.int (13 : Int32)), .unset] [(.int (1 : Int32))]))
    refine own_st (fun _ k => XS.istoreN X132.here hx rfl (hb hby at_130) rfl (l' := #[.val (.int p1), .val (.ref b13), .val (.int (13 : Int32)), .val (.int (1 : Int32))]) rfl k) ?_
    show own_Go p e below s _ _ _ (T132.setTop (mkF m 131 #[.val (.int p1), .val (.ref b13), .val (.int (13 : Int32)), .val (.int (1 : Int32))] []))
    refine own_st (fun _ k => XS.aloadN X132.here hx rfl (hb hby at_131) rfl rfl k) ?_
    show own_Go p e below s _ _ _ (T132.setTop (mkF m 132 #[.val (.int p1), .val (.ref b13), .val (.int (13 : Int32)), .val (.int (1 : Int32))] [(.ref b13)]))
    refine own_st (fun _ k => XS.iloadN X132.here hx rfl (hb hby at_132) rfl k) ?_
    show own_Go p e below s _ _ _ (T132.setTop (mkF m 133 #[.val (.int p1), .val (.ref b13), .val (.int (13 : Int32)), .val (.int (1 : Int32))] [(.int (13 : Int32)), (.ref b13)]))
    obtain ⟨cl202, Ar202, kc202, S202, Nn202, H202, G202⟩ := id F135
    have hin202 : ¬ ((13 : Int32) < 0 ∨ cl202.slots.size ≤ ((13 : Int32) : Int32).toNatClampNeg) := inb_of S202 (by decide)
    have hat202 : cl202.slots[((13 : Int32) : Int32).toNatClampNeg]? = some (.ref a_TransactionHeuristicHazard) := H202.at hin202 rfl
    refine own_st (fun _ k => X132.aaload hx (j := (13 : Int32)) (v := (.ref a_TransactionHeuristicHazard)) (by rw [e132]; exact Ar202.1) (State.isArrayOf_alike hZ.alike Ar202.2.1) rfl Ar202.2.2 hin202 hat202 (g := (mkF m 133 #[.val (.int p1), .val (.ref b13), .val (.int (13 : Int32)), .val (.int (1 : Int32))] [(.int (13 : Int32)), (.ref b13)])) rfl rfl (hb hby at_133) _ k) ?_
    show own_Go p e below s _ _ _ (T132.setTop (mkF m 134 #[.val (.int p1), .val (.ref b13), .val (.int (13 : Int32)), .val (.int (1 : Int32))] [(.ref a_TransactionHeuristicHazard)]))
    have O204 : Old Z n0 h132 := (O129.wr W132 g15)
    have F205 : Exa Z h132 a_TransactionHeuristicHazard "com/example/concordat/concordat/TxStatus" := Ex_a_TransactionHeuristicHazard.ext O204.2
    obtain ⟨cq203, kq203, q203a, q203b, q203c⟩ := isOf hZ e132 F205
    obtain ⟨_, _, ⟨T203, L203, k203, n203⟩, -, X203, ⟨Lc203, hQ203, l203, y203, z203⟩, st203⟩ := X132.virtualBack hx (y := (⟨"com/example/concordat/concordat/TxStatus", "isHeuristic", "()Z"⟩ : MethodName)) (z := (⟨"com/example/concordat/concordat/TxStatus", "isHeuristic", "()Z"⟩ : MethodName)) hown (mvT hZ (hw _ (List.mem_of_getElem? (i := 35) rfl))) (mvT hZ (hw _ (List.mem_of_getElem? (i := 36) rfl))) (notFace_of_selects (args := #[]) (mvT hZ (hw _ (List.mem_of_getElem? (i := 38) rfl)))) (mvT hZ (hw _ (List.mem_of_getElem? (i := 38) rfl))) (mvT hZ (hw _ (List.mem_of_getElem? (i := 37) rfl))) (by decide) (backOf (W := 0) (own_rm_is l Z a0 hw [] a_TransactionHeuristicHazard a_TransactionHeuristicRollback a_TransactionHeuristicCommit a_TransactionHeuristicMixed a_TransactionHeuristicHazard h132 n0 Zs136 O204 S_a_TransactionHeuristicRollback S_a_TransactionHeuristicCommit S_a_TransactionHeuristicMixed S_a_TransactionHeuristicHazard) hZ (hw _ (List.mem_of_getElem? (i := 39) rfl)) (hw _ (List.mem_of_getElem? (i := 3) rfl)) (by decide) (by decide)) q203a q203c (g := (mkF m 134 #[.val (.int p1), .val (.ref b13), .val (.int (13 : Int32)), .val (.int (1 : Int32))] [(.ref a_TransactionHeuristicHazard)])) rfl (by rw [hml]; rfl) (Steps.refl _) (argsL := []) (rest := []) (lenOf own_pd0 rfl) rfl (by show 2 * 0 + _ ≤ _; exact Nat.le_of_eq rfl) (hb hby at_134) (fun _ _ => ⟨rfl, e132, (by decide : 1 + 0 ≤ _), (by decide : 15 + 0 ≤ _)⟩)
    dsimp only [Pt.U, Pt.locs, Pt.cells, Pt.slots] at X203 l203 y203 z203 st203 hQ203
    subst l203 y203 z203
    obtain ⟨N203q, rfl, eh203⟩ := hQ203
    have N206 := Fr.app N134 N203q
    refine own_tr st203 ?_
    show own_Go p e below s _ _ _ (T203.setTop (mkF m 137 #[.val (.int p1), .val (.ref b13), .val (.int (13 : Int32)), .val (.int (1 : Int32))] [(.int (own_is a_TransactionHeuristicRollback a_TransactionHeuristicCommit a_TransactionHeuristicMixed a_TransactionHeuristicHazard a_TransactionHeuristicHazard))]))
    refine own_st (fun _ k => XS.iloadN X203.here hx rfl (hb hby at_137) rfl k) ?_
    show own_Go p e below s _ _ _ (T203.setTop (mkF m 138 #[.val (.int p1), .val (.ref b13), .val (.int (13 : Int32)), .val (.int (1 : Int32))] [(.int (1 : Int32)), (.int (own_is a_TransactionHeuristicRollback a_TransactionHeuristicCommit a_TransactionHeuristicMixed a_TransactionHeuristicHazard a_TransactionHeuristicHazard))]))
    refine own_st (fun _ k => XS.icmpNo X203.here hx rfl (hb hby at_138) rfl (XT.ii_ne_f (by simp [own_is, ne_HeuristicHazard_HeuristicRollback, ne_HeuristicHazard_HeuristicCommit, ne_HeuristicHazard_HeuristicMixed])) k) ?_
    show own_Go p e below s _ _ _ (T203.setTop (mkF m 141 #[.val (.int p1), .val (.ref b13), .val (.int (13 : Int32)), .val (.int (1 : Int32))] []))
    refine own_st (fun _ k => XT.iconstV X203.here hx rfl (1 : Int32) (hb hby at_141) (by decide) k) ?_
    show own_Go p e below s _ _ _ (T203.setTop (mkF m 142 #[.val (.int p1), .val (.ref b13), .val (.int (13 : Int32)), .val (.int (1 : Int32))] [(.int (1 : Int32))]))
    refine own_st (fun _ k => XS.goto X203.here hx rfl (pc0 := 142) (pc' := 146) rfl (hb hby at_142) (by decide) (by decide) k) ?_
    show own_Go p e below s _ _ _ (T203.setTop (mkF m 146 #[.val (.int p1), .val (.ref b13), .val (.int (13 : Int32)), .val (.int (1 : Int32))] [(.int (1 : Int32))]))
    refine own_retN X203 hx hlk Bd.returns (t := .boolean) (z' := (1 : Int32)) (by simp) (by decide) (hb hby at_146) (by decide) (by decide) ?_
    rw [eh203]
    exact ⟨N206, rfl⟩
  · rw [hi]
    show own_Go p e below s _ _ _ (T132.setTop (mkF m 113 #[.val (.int p1), .val (.ref b13), .val (.int (14 : Int32)), .unset] []))
    refine own_st (fun _ k => XS.iloadN X132.here hx rfl (hb hby at_113) rfl k) ?_
    show own_Go p e below s _ _ _ (T132.setTop (mkF m 114 #[.val (.int p1), .val (.ref b13), .val (.int (14 : Int32)), .unset] [(.int (14 : Int32))]))
    refine own_st (fun _ k => XT.bipushV X132.here hx rfl (10 : Int32) (hb hby at_114) (by decide) k) ?_
    show own_Go p e below s _ _ _ (T132.setTop (mkF m 116 #[.val (.int p1), .val (.ref b13), .val (.int (14 : Int32)), .unset] [(.int (10 : Int32)), (.int (14 : Int32))]))
    refine own_st (fun _ k => XS.icmpNo X132.here hx rfl (hb hby at_116) rfl (XT.ii_lt_f (by decide)) k) ?_
    show own_Go p e below s _ _ _ (T132.setTop (mkF m 119 #[.val (.int p1), .val (.ref b13), .val (.int (14 : Int32)), .unset] []))
    refine own_st (fun _ k => XS.iloadN X132.here hx rfl (hb hby at_119) rfl k) ?_
    show own_Go p e below s _ _ _ (T132.setTop (mkF m 120 #[.val (.int p1), .val (.ref b13), .val (.int (14 : Int32)), .unset] [(.int (14 : Int32))]))
    refine own_st (fun _ k => XT.bipushV X132.here hx rfl (13 : Int32) (hb hby at_120) (by decide) k) ?_
    show own_Go p e below s _ _ _ (T132.setTop (mkF m 122 #[.val (.int p1), .val (.ref b13), .val (.int (14 : Int32)), .unset] [(.int (13 : Int32)), (.int (14 : Int32))]))
    refine own_st (fun _ k => XS.icmpYes X132.here hx rfl (pc0 := 122) (pc' := 129) rfl (hb hby at_122) rfl (XT.ii_gt_t (by decide)) (by decide) (by decide) k) ?_
    show own_Go p e below s _ _ _ (T132.setTop (mkF m 129 #[.val (.int p1), .val (.ref b13), .val (.int (14 : Int32)), .unset] []))
    refine own_st (fun _ k => XT.iconstV X132.here hx rfl (0 : Int32) (hb hby at_129) (by decide) k) ?_
    show own_Go p e below s _ _ _ (T132.setTop (mkF m 130 #[.val (.int p1), .val (.ref b13), .val (.int (14 : Int32)), .unset] [(.int (0 : Int32))]))
    refine own_st (fun _ k => XS.istoreN X132.here hx rfl (hb hby at_130) rfl (l' := #[.val (.int p1), .val (.ref b13), .val (.int (14 : Int32)), .val (.int (0 : Int32))]) rfl k) ?_
    show own_Go p e below s _ _ _ (T132.setTop (mkF m 131 #[.val (.int p1), .val (.ref b13), .val (.int (14 : Int32)), .val (.int (0 : Int32))] []))
    refine own_st (fun _ k => XS.aloadN X132.here hx rfl (hb hby at_131) rfl rfl k) ?_
    show own_Go p e below s _ _ _ (T132.setTop (mkF m 132 #[.val (.int p1), .val (.ref b13), .val (.int (14 : Int32)), .val (.int (0 : Int32))] [(.ref b13)]))
    refine own_st (fun _ k => XS.iloadN X132.here hx rfl (hb hby at_132) rfl k) ?_
    show own_Go p e below s _ _ _ (T132.setTop (mkF m 133 #[.val (.int p1), .val (.ref b13), .val (.int (14 : Int32)), .val (.int (0 : Int32))] [(.int (14 : Int32)), (.ref b13)]))
    obtain ⟨cl207, Ar207, kc207, S207, Nn207, H207, G207⟩ := id F135
    have hin207 : ¬ ((14 : Int32) < 0 ∨ cl207.slots.size ≤ ((14 : Int32) : Int32).toNatClampNeg) := inb_of S207 (by decide)
    have hat207 : cl207.slots[((14 : Int32) : Int32).toNatClampNeg]? = some (.ref a_TransactionStatusUnknown) := H207.at hin207 rfl
    refine own_st (fun _ k => X132.aaload hx (j := (14 : Int32)) (v := (.ref a_TransactionStatusUnknown)) (by rw [e132]; exact Ar207.1) (State.isArrayOf_alike hZ.alike Ar207.2.1) rfl Ar207.2.2 hin207 hat207 (g := (mkF m 133 #[.val (.int p1), .val (.ref b13), .val (.int (14 : Int32)), .val (.int (0 : Int32))] [(.int (14 : Int32)), (.ref b13)])) rfl rfl (hb hby at_133) _ k) ?_
    show own_Go p e below s _ _ _ (T132.setTop (mkF m 134 #[.val (.int p1), .val (.ref b13), .val (.int (14 : Int32)), .val (.int (0 : Int32))] [(.ref a_TransactionStatusUnknown)]))
    have O209 : Old Z n0 h132 := (O129.wr W132 g15)
    have F210 : Exa Z h132 a_TransactionStatusUnknown "com/example/concordat/concordat/TxStatus" := Ex_a_TransactionStatusUnknown.ext O209.2
    obtain ⟨cq208, kq208, q208a, q208b, q208c⟩ := isOf hZ e132 F210
    obtain ⟨_, _, ⟨T208, L208, k208, n208⟩, -, X208, ⟨Lc208, hQ208, l208, y208, z208⟩, st208⟩ := X132.virtualBack hx (y := (⟨"com/example/concordat/concordat/TxStatus", "isHeuristic", "()Z"⟩ : MethodName)) (z := (⟨"com/example/concordat/concordat/TxStatus", "isHeuristic", "()Z"⟩ : MethodName)) hown (mvT hZ (hw _ (List.mem_of_getElem? (i := 35) rfl))) (mvT hZ (hw _ (List.mem_of_getElem? (i := 36) rfl))) (notFace_of_selects (args := #[]) (mvT hZ (hw _ (List.mem_of_getElem? (i := 38) rfl)))) (mvT hZ (hw _ (List.mem_of_getElem? (i := 38) rfl))) (mvT hZ (hw _ (List.mem_of_getElem? (i := 37) rfl))) (by decide) (backOf (W := 0) (own_rm_is l Z a0 hw [] a_TransactionStatusUnknown a_TransactionHeuristicRollback a_TransactionHeuristicCommit a_TransactionHeuristicMixed a_TransactionHeuristicHazard h132 n0 Zs136 O209 S_a_TransactionHeuristicRollback S_a_TransactionHeuristicCommit S_a_TransactionHeuristicMixed S_a_TransactionHeuristicHazard) hZ (hw _ (List.mem_of_getElem? (i := 39) rfl)) (hw _ (List.mem_of_getElem? (i := 3) rfl)) (by decide) (by decide)) q208a q208c (g := (mkF m 134 #[.val (.int p1), .val (.ref b13), .val (.int (14 : Int32)), .val (.int (0 : Int32))] [(.ref a_TransactionStatusUnknown)])) rfl (by rw [hml]; rfl) (Steps.refl _) (argsL := []) (rest := []) (lenOf own_pd0 rfl) rfl (by show 2 * 0 + _ ≤ _; exact Nat.le_of_eq rfl) (hb hby at_134) (fun _ _ => ⟨rfl, e132, (by decide : 1 + 0 ≤ _), (by decide : 15 + 0 ≤ _)⟩)
    dsimp only [Pt.U, Pt.locs, Pt.cells, Pt.slots] at X208 l208 y208 z208 st208 hQ208
    subst l208 y208 z208
    obtain ⟨N208q, rfl, eh208⟩ := hQ208
    have N211 := Fr.app N134 N208q
    refine own_tr st208 ?_
    show own_Go p e below s _ _ _ (T208.setTop (mkF m 137 #[.val (.int p1), .val (.ref b13), .val (.int (14 : Int32)), .val (.int (0 : Int32))] [(.int (own_is a_TransactionHeuristicRollback a_TransactionHeuristicCommit a_TransactionHeuristicMixed a_TransactionHeuristicHazard a_TransactionStatusUnknown))]))
    refine own_st (fun _ k => XS.iloadN X208.here hx rfl (hb hby at_137) rfl k) ?_
    show own_Go p e below s _ _ _ (T208.setTop (mkF m 138 #[.val (.int p1), .val (.ref b13), .val (.int (14 : Int32)), .val (.int (0 : Int32))] [(.int (0 : Int32)), (.int (own_is a_TransactionHeuristicRollback a_TransactionHeuristicCommit a_TransactionHeuristicMixed a_TransactionHeuristicHazard a_TransactionStatusUnknown))]))
    refine own_st (fun _ k => XS.icmpNo X208.here hx rfl (hb hby at_138) rfl (XT.ii_ne_f (by simp [own_is, ne_StatusUnknown_HeuristicRollback, ne_StatusUnknown_HeuristicCommit, ne_StatusUnknown_HeuristicMixed, ne_StatusUnknown_HeuristicHazard])) k) ?_
    show own_Go p e below s _ _ _ (T208.setTop (mkF m 141 #[.val (.int p1), .val (.ref b13), .val (.int (14 : Int32)), .val (.int (0 : Int32))] []))
    refine own_st (fun _ k => XT.iconstV X208.here hx rfl (1 : Int32) (hb hby at_141) (by decide) k) ?_
    show own_Go p e below s _ _ _ (T208.setTop (mkF m 142 #[.val (.int p1), .val (.ref b13), .val (.int (14 : Int32)), .val (.int (0 : Int32))] [(.int (1 : Int32))]))
    refine own_st (fun _ k => XS.goto X208.here hx rfl (pc0 := 142) (pc' := 146) rfl (hb hby at_142) (by decide) (by decide) k) ?_
    show own_Go p e below s _ _ _ (T208.setTop (mkF m 146 #[.val (.int p1), .val (.ref b13), .val (.int (14 : Int32)), .val (.int (0 : Int32))] [(.int (1 : Int32))]))
    refine own_retN X208 hx hlk Bd.returns (t := .boolean) (z' := (1 : Int32)) (by simp) (by decide) (hb hby at_146) (by decide) (by decide) ?_
    rw [eh208]
    exact ⟨N211, rfl⟩
set_option maxRecDepth 65536 in
set_option maxHeartbeats 40000000 in
theorem comes_1 {Post : Tables → Env → Array Value → State → Outcome → State → Prop} (hpost : ∀ tb e args s v u, (limb_1_1.after args s (.returned v) u = true ∧ limb_1_2.after args s (.returned v) u = true ∧ True) → FrameEnd s (.returned v) u (Jvm.fieldLocs frame_1_writes args s ++ Jvm.arrayLocs frame_1_arrays args s ++ Jvm.staticLocs frame_1_statics s) 16 128 → Post tb e args s (.returned v) u) :
    ArmFor flags0 classFile x code maxLocals ret World_1 tables_1 room_1 Calls_1 rest_1 Pre_1 Post := by
  intro l hfl _ _ p e ha hc hk s m args below hf hA hF happ hP
  obtain ⟨hcalls, hrest, hpre⟩ := hP
  obtain ⟨-, -, -, hnamed, -, -, -, hat⟩ := (Spec.applies_iff hf).mp happ
  obtain ⟨hg, hn⟩ := and_e (Cond.before_iff.mp (show (Jvm.Cond.and given_1 narrow_1).before args s = true from hpre))
  obtain ⟨gg0, hg0⟩ := and_e hg
  obtain ⟨w0, rfl⟩ : ∃ w0 : Value, args = #[w0] := by
    have hs : args.size = 1 := by simpa [Cond.value, given_1] using gg0
    obtain ⟨L⟩ := args
    match L, hs with
    | [w0], _ => exact ⟨w0, rfl⟩
  have hw := fun d (hd : d ∈ tables_1) => atoms_spec (ws := Jvm.Cond.code x code maxLocals ret :: tables_1) hat d (List.mem_cons_of_mem _ hd)
  have hfit : Fit s := fun {y c} hc i hi => by
    obtain ⟨ha, rfl⟩ := Array.getElem?_eq_some_iff.mp hc
    have q := List.all_eq_true.mp ((Array.all_eq_true_iff_forall_mem.mp hF) _ (Array.getElem_mem ha)) i (List.mem_range.mpr hi)
    simpa [Array.getElem?_eq_getElem hi] using q
  obtain ⟨i0, ei0⟩ := is_v hg0
  obtain rfl : w0 = (.int i0) := Option.some.inj ei0
  obtain ⟨nn0, hn0⟩ := and_e hn
  obtain ⟨nn1, hn1⟩ := and_e hn0
  obtain ⟨nn2, hn2⟩ := and_e hn1
  obtain ⟨nn3, hn3⟩ := and_e hn2
  obtain ⟨nn4, hn4⟩ := and_e hn3
  obtain ⟨nn5, hn5⟩ := and_e hn4
  obtain ⟨nn6, hn6⟩ := and_e hn5
  obtain ⟨nn7, hn7⟩ := and_e hn6
  obtain ⟨nn8, hn8⟩ := and_e hn7
  obtain ⟨nn9, hn9⟩ := and_e hn8
  obtain ⟨nn10, hn10⟩ := and_e hn9
  obtain ⟨nn11, hn11⟩ := and_e hn10
  obtain ⟨nn12, hn12⟩ := and_e hn11
  obtain ⟨nn13, hn13⟩ := and_e hn12
  obtain ⟨nn14, hn14⟩ := and_e hn13
  obtain ⟨nn15, hn15⟩ := and_e hn14
  obtain ⟨nn16, hn16⟩ := and_e hn15
  obtain ⟨nn17, hn17⟩ := and_e hn16
  obtain ⟨nn18, hn18⟩ := and_e hn17
  obtain ⟨nn19, hn19⟩ := and_e hn18
  obtain ⟨nn20, hn20⟩ := and_e hn19
  obtain ⟨nn21, hn21⟩ := and_e hn20
  obtain ⟨nn22, hn22⟩ := and_e hn21
  obtain ⟨nn23, hn23⟩ := and_e hn22
  obtain ⟨nn24, hn24⟩ := and_e hn23
  obtain ⟨nn25, hn25⟩ := and_e hn24
  obtain ⟨nn26, hn26⟩ := and_e hn25
  obtain ⟨nn27, hn27⟩ := and_e hn26
  obtain ⟨nn28, hn28⟩ := and_e hn27
  obtain ⟨a_TransactionActive, e_a_TransactionActive⟩ := exa_v nn0
  have Ex_a_TransactionActive : Exa s s.heap a_TransactionActive "com/example/concordat/concordat/TxStatus" := Exa.start e_a_TransactionActive nn0
  have S_a_TransactionActive : Sta s s.heap "com/example/concordat/concordat/TxStatus" "TransactionActive" "Lcom/example/concordat/concordat/TxStatus;" (.ref a_TransactionActive) := Sta.start e_a_TransactionActive (Or.inr ⟨(hw _ (List.mem_of_getElem? (i := 3) rfl)), (hw _ (List.mem_of_getElem? (i := 4) rfl))⟩)
  obtain ⟨a_TransactionPreparing, e_a_TransactionPreparing⟩ := exa_v nn1
  have Ex_a_TransactionPreparing : Exa s s.heap a_TransactionPreparing "com/example/concordat/concordat/TxStatus" := Exa.start e_a_TransactionPreparing nn1
  have S_a_TransactionPreparing : Sta s s.heap "com/example/concordat/concordat/TxStatus" "TransactionPreparing" "Lcom/example/concordat/concordat/TxStatus;" (.ref a_TransactionPreparing) := Sta.start e_a_TransactionPreparing (Or.inr ⟨(hw _ (List.mem_of_getElem? (i := 3) rfl)), (hw _ (List.mem_of_getElem? (i := 7) rfl))⟩)
  obtain ⟨a_TransactionPrepared, e_a_TransactionPrepared⟩ := exa_v nn2
  have Ex_a_TransactionPrepared : Exa s s.heap a_TransactionPrepared "com/example/concordat/concordat/TxStatus" := Exa.start e_a_TransactionPrepared nn2
  have S_a_TransactionPrepared : Sta s s.heap "com/example/concordat/concordat/TxStatus" "TransactionPrepared" "Lcom/example/concordat/concordat/TxStatus;" (.ref a_TransactionPrepared) := Sta.start e_a_TransactionPrepared (Or.inr ⟨(hw _ (List.mem_of_getElem? (i := 3) rfl)), (hw _ (List.mem_of_getElem? (i := 9) rfl))⟩)
  obtain ⟨a_TransactionCommitting, e_a_TransactionCommitting⟩ := exa_v nn3
  have Ex_a_TransactionCommitting : Exa s s.heap a_TransactionCommitting "com/example/concordat/concordat/TxStatus" := Exa.start e_a_TransactionCommitting nn3
  have S_a_TransactionCommitting : Sta s s.heap "com/example/concordat/concordat/TxStatus" "TransactionCommitting" "Lcom/example/concordat/concordat/TxStatus;" (.ref a_TransactionCommitting) := Sta.start e_a_TransactionCommitting (Or.inr ⟨(hw _ (List.mem_of_getElem? (i := 3) rfl)), (hw _ (List.mem_of_getElem? (i := 11) rfl))⟩)
  obtain ⟨a_TransactionCommitted, e_a_TransactionCommitted⟩ := exa_v nn4
  have Ex_a_TransactionCommitted : Exa s s.heap a_TransactionCommitted "com/example/concordat/concordat/TxStatus" := Exa.start e_a_TransactionCommitted nn4
  have S_a_TransactionCommitted : Sta s s.heap "com/example/concordat/concordat/TxStatus" "TransactionCommitted" "Lcom/example/concordat/concordat/TxStatus;" (.ref a_TransactionCommitted) := Sta.start e_a_TransactionCommitted (Or.inr ⟨(hw _ (List.mem_of_getElem? (i := 3) rfl)), (hw _ (List.mem_of_getElem? (i := 13) rfl))⟩)
  obtain ⟨a_TransactionCommittedOnePhase, e_a_TransactionCommittedOnePhase⟩ := exa_v nn5
  have Ex_a_TransactionCommittedOnePhase : Exa s s.heap a_TransactionCommittedOnePhase "com/example/concordat/concordat/TxStatus" := Exa.start e_a_TransactionCommittedOnePhase nn5
  have S_a_TransactionCommittedOnePhase : Sta s s.heap "com/example/concordat/concordat/TxStatus" "TransactionCommittedOnePhase" "Lcom/example/concordat/concordat/TxStatus;" (.ref a_TransactionCommittedOnePhase) := Sta.start e_a_TransactionCommittedOnePhase (Or.inr ⟨(hw _ (List.mem_of_getElem? (i := 3) rfl)), (hw _ (List.mem_of_getElem? (i := 15) rfl))⟩)
  obtain ⟨a_TransactionRollingBack, e_a_TransactionRollingBack⟩ := exa_v nn6
  have Ex_a_TransactionRollingBack : Exa s s.heap a_TransactionRollingBack "com/example/concordat/concordat/TxStatus" := Exa.start e_a_TransactionRollingBack nn6
  have S_a_TransactionRollingBack : Sta s s.heap "com/example/concordat/concordat/TxStatus" "TransactionRollingBack" "Lcom/example/concordat/concordat/TxStatus;" (.ref a_TransactionRollingBack) := Sta.start e_a_TransactionRollingBack (Or.inr ⟨(hw _ (List.mem_of_getElem? (i := 3) rfl)), (hw _ (List.mem_of_getElem? (i := 17) rfl))⟩)
  obtain ⟨a_TransactionRolledBack, e_a_TransactionRolledBack⟩ := exa_v nn7
  have Ex_a_TransactionRolledBack : Exa s s.heap a_TransactionRolledBack "com/example/concordat/concordat/TxStatus" := Exa.start e_a_TransactionRolledBack nn7
  have S_a_TransactionRolledBack : Sta s s.heap "com/example/concordat/concordat/TxStatus" "TransactionRolledBack" "Lcom/example/concordat/concordat/TxStatus;" (.ref a_TransactionRolledBack) := Sta.start e_a_TransactionRolledBack (Or.inr ⟨(hw _ (List.mem_of_getElem? (i := 3) rfl)), (hw _ (List.mem_of_getElem? (i := 19) rfl))⟩)
  obtain ⟨a_TransactionRollbackOnly, e_a_TransactionRollbackOnly⟩ := exa_v nn8
  have Ex_a_TransactionRollbackOnly : Exa s s.heap a_TransactionRollbackOnly "com/example/concordat/concordat/TxStatus" := Exa.start e_a_TransactionRollbackOnly nn8
  have S_a_TransactionRollbackOnly : Sta s s.heap "com/example/concordat/concordat/TxStatus" "TransactionRollbackOnly" "Lcom/example/concordat/concordat/TxStatus;" (.ref a_TransactionRollbackOnly) := Sta.start e_a_TransactionRollbackOnly (Or.inr ⟨(hw _ (List.mem_of_getElem? (i := 3) rfl)), (hw _ (List.mem_of_getElem? (i := 21) rfl))⟩)
  obtain ⟨a_TransactionReadOnly, e_a_TransactionReadOnly⟩ := exa_v nn9
  have Ex_a_TransactionReadOnly : Exa s s.heap a_TransactionReadOnly "com/example/concordat/concordat/TxStatus" := Exa.start e_a_TransactionReadOnly nn9
  have S_a_TransactionReadOnly : Sta s s.heap "com/example/concordat/concordat/TxStatus" "TransactionReadOnly" "Lcom/example/concordat/concordat/TxStatus;" (.ref a_TransactionReadOnly) := Sta.start e_a_TransactionReadOnly (Or.inr ⟨(hw _ (List.mem_of_getElem? (i := 3) rfl)), (hw _ (List.mem_of_getElem? (i := 23) rfl))⟩)
  obtain ⟨a_TransactionHeuristicRollback, e_a_TransactionHeuristicRollback⟩ := exa_v nn10
  have Ex_a_TransactionHeuristicRollback : Exa s s.heap a_TransactionHeuristicRollback "com/example/concordat/concordat/TxStatus" := Exa.start e_a_TransactionHeuristicRollback nn10
  have S_a_TransactionHeuristicRollback : Sta s s.heap "com/example/concordat/concordat/TxStatus" "TransactionHeuristicRollback" "Lcom/example/concordat/concordat/TxStatus;" (.ref a_TransactionHeuristicRollback) := Sta.start e_a_TransactionHeuristicRollback (Or.inr ⟨(hw _ (List.mem_of_getElem? (i := 3) rfl)), (hw _ (List.mem_of_getElem? (i := 25) rfl))⟩)
  obtain ⟨a_TransactionHeuristicCommit, e_a_TransactionHeuristicCommit⟩ := exa_v nn11
  have Ex_a_TransactionHeuristicCommit : Exa s s.heap a_TransactionHeuristicCommit "com/example/concordat/concordat/TxStatus" := Exa.start e_a_TransactionHeuristicCommit nn11
  have S_a_TransactionHeuristicCommit : Sta s s.heap "com/example/concordat/concordat/TxStatus" "TransactionHeuristicCommit" "Lcom/example/concordat/concordat/TxStatus;" (.ref a_TransactionHeuristicCommit) := Sta.start e_a_TransactionHeuristicCommit (Or.inr ⟨(hw _ (List.mem_of_getElem? (i := 3) rfl)), (hw _ (List.mem_of_getElem? (i := 27) rfl))⟩)
  obtain ⟨a_TransactionHeuristicMixed, e_a_TransactionHeuristicMixed⟩ := exa_v nn12
  have Ex_a_TransactionHeuristicMixed : Exa s s.heap a_TransactionHeuristicMixed "com/example/concordat/concordat/TxStatus" := Exa.start e_a_TransactionHeuristicMixed nn12
  have S_a_TransactionHeuristicMixed : Sta s s.heap "com/example/concordat/concordat/TxStatus" "TransactionHeuristicMixed" "Lcom/example/concordat/concordat/TxStatus;" (.ref a_TransactionHeuristicMixed) := Sta.start e_a_TransactionHeuristicMixed (Or.inr ⟨(hw _ (List.mem_of_getElem? (i := 3) rfl)), (hw _ (List.mem_of_getElem? (i := 29) rfl))⟩)
  obtain ⟨a_TransactionHeuristicHazard, e_a_TransactionHeuristicHazard⟩ := exa_v nn13
  have Ex_a_TransactionHeuristicHazard : Exa s s.heap a_TransactionHeuristicHazard "com/example/concordat/concordat/TxStatus" := Exa.start e_a_TransactionHeuristicHazard nn13
  have S_a_TransactionHeuristicHazard : Sta s s.heap "com/example/concordat/concordat/TxStatus" "TransactionHeuristicHazard" "Lcom/example/concordat/concordat/TxStatus;" (.ref a_TransactionHeuristicHazard) := Sta.start e_a_TransactionHeuristicHazard (Or.inr ⟨(hw _ (List.mem_of_getElem? (i := 3) rfl)), (hw _ (List.mem_of_getElem? (i := 31) rfl))⟩)
  obtain ⟨a_TransactionStatusUnknown, e_a_TransactionStatusUnknown⟩ := exa_v nn14
  have Ex_a_TransactionStatusUnknown : Exa s s.heap a_TransactionStatusUnknown "com/example/concordat/concordat/TxStatus" := Exa.start e_a_TransactionStatusUnknown nn14
  have S_a_TransactionStatusUnknown : Sta s s.heap "com/example/concordat/concordat/TxStatus" "TransactionStatusUnknown" "Lcom/example/concordat/concordat/TxStatus;" (.ref a_TransactionStatusUnknown) := Sta.start e_a_TransactionStatusUnknown (Or.inr ⟨(hw _ (List.mem_of_getElem? (i := 3) rfl)), (hw _ (List.mem_of_getElem? (i := 33) rfl))⟩)
  have ev_nn15 := own_eqV nn15 (Term.int_eval _)
  have F_TransactionActive_ordinal : Fld s s.heap a_TransactionActive "java/lang/Enum" "ordinal" "I" (.int (0 : Int32)) := Fld.start ((fld_at e_a_TransactionActive).symm.trans ev_nn15)
  have ev_nn16 := own_eqV nn16 (Term.int_eval _)
  have F_TransactionHeuristicRollback_ordinal : Fld s s.heap a_TransactionHeuristicRollback "java/lang/Enum" "ordinal" "I" (.int (10 : Int32)) := Fld.start ((fld_at e_a_TransactionHeuristicRollback).symm.trans ev_nn16)
  have ev_nn17 := own_eqV nn17 (Term.int_eval _)
  have F_TransactionHeuristicCommit_ordinal : Fld s s.heap a_TransactionHeuristicCommit "java/lang/Enum" "ordinal" "I" (.int (11 : Int32)) := Fld.start ((fld_at e_a_TransactionHeuristicCommit).symm.trans ev_nn17)
  have ev_nn18 := own_eqV nn18 (Term.int_eval _)
  have F_TransactionHeuristicMixed_ordinal : Fld s s.heap a_TransactionHeuristicMixed "java/lang/Enum" "ordinal" "I" (.int (12 : Int32)) := Fld.start ((fld_at e_a_TransactionHeuristicMixed).symm.trans ev_nn18)
  have ev_nn19 := own_eqV nn19 (Term.int_eval _)
  have F_TransactionHeuristicHazard_ordinal : Fld s s.heap a_TransactionHeuristicHazard "java/lang/Enum" "ordinal" "I" (.int (13 : Int32)) := Fld.start ((fld_at e_a_TransactionHeuristicHazard).symm.trans ev_nn19)
  have ev_nn20 := own_eqV nn20 (Term.int_eval _)
  have F_TransactionCommitting_ordinal : Fld s s.heap a_TransactionCommitting "java/lang/Enum" "ordinal" "I" (.int (3 : Int32)) := Fld.start ((fld_at e_a_TransactionCommitting).symm.trans ev_nn20)
  have ev_nn21 := own_eqV nn21 (Term.int_eval _)
  have F_TransactionCommittedOnePhase_ordinal : Fld s s.heap a_TransactionCommittedOnePhase "java/lang/Enum" "ordinal" "I" (.int (5 : Int32)) := Fld.start ((fld_at e_a_TransactionCommittedOnePhase).symm.trans ev_nn21)
  have ev_nn22 := own_eqV nn22 (Term.int_eval _)
  have F_TransactionRollingBack_ordinal : Fld s s.heap a_TransactionRollingBack "java/lang/Enum" "ordinal" "I" (.int (6 : Int32)) := Fld.start ((fld_at e_a_TransactionRollingBack).symm.trans ev_nn22)
  have ev_nn23 := own_eqV nn23 (Term.int_eval _)
  have F_TransactionStatusUnknown_ordinal : Fld s s.heap a_TransactionStatusUnknown "java/lang/Enum" "ordinal" "I" (.int (14 : Int32)) := Fld.start ((fld_at e_a_TransactionStatusUnknown).symm.trans ev_nn23)
  have ev_nn24 := own_eqV nn24 (Term.int_eval _)
  have F_TransactionRolledBack_ordinal : Fld s s.heap a_TransactionRolledBack "java/lang/Enum" "ordinal" "I" (.int (7 : Int32)) := Fld.start ((fld_at e_a_TransactionRolledBack).symm.trans ev_nn24)
  have ev_nn25 := own_eqV nn25 (Term.int_eval _)
  have F_TransactionPrepared_ordinal : Fld s s.heap a_TransactionPrepared "java/lang/Enum" "ordinal" "I" (.int (2 : Int32)) := Fld.start ((fld_at e_a_TransactionPrepared).symm.trans ev_nn25)
  have ev_nn26 := own_eqV nn26 (Term.int_eval _)
  have F_TransactionRollbackOnly_ordinal : Fld s s.heap a_TransactionRollbackOnly "java/lang/Enum" "ordinal" "I" (.int (8 : Int32)) := Fld.start ((fld_at e_a_TransactionRollbackOnly).symm.trans ev_nn26)
  have ev_nn27 := own_eqV nn27 (Term.int_eval _)
  have F_TransactionPreparing_ordinal : Fld s s.heap a_TransactionPreparing "java/lang/Enum" "ordinal" "I" (.int (1 : Int32)) := Fld.start ((fld_at e_a_TransactionPreparing).symm.trans ev_nn27)
  have ev_nn28 := own_eqV nn28 (Term.int_eval _)
  have F_TransactionCommitted_ordinal : Fld s s.heap a_TransactionCommitted "java/lang/Enum" "ordinal" "I" (.int (4 : Int32)) := Fld.start ((fld_at e_a_TransactionCommitted).symm.trans ev_nn28)
  have ev_hn28 := own_eqV hn28 (Term.int_eval _)
  have F_TransactionReadOnly_ordinal : Fld s s.heap a_TransactionReadOnly "java/lang/Enum" "ordinal" "I" (.int (9 : Int32)) := Fld.start ((fld_at e_a_TransactionReadOnly).symm.trans ev_hn28)
  obtain ⟨n, o, h1, h2, h3, _, L, rfl, ⟨N, rfl⟩, hq⟩ := own_law l s _ hw tables_1 i0 a_TransactionActive a_TransactionPreparing a_TransactionPrepared a_TransactionCommitting a_TransactionCommitted a_TransactionCommittedOnePhase a_TransactionRollingBack a_TransactionRolledBack a_TransactionRollbackOnly a_TransactionReadOnly a_TransactionHeuristicRollback a_TransactionHeuristicCommit a_TransactionHeuristicMixed a_TransactionHeuristicHazard a_TransactionStatusUnknown s.heap s.heap.size (Nat.le_refl _) (Old.start s) Ex_a_TransactionActive S_a_TransactionActive Ex_a_TransactionPreparing S_a_TransactionPreparing Ex_a_TransactionPrepared S_a_TransactionPrepared Ex_a_TransactionCommitting S_a_TransactionCommitting Ex_a_TransactionCommitted S_a_TransactionCommitted Ex_a_TransactionCommittedOnePhase S_a_TransactionCommittedOnePhase Ex_a_TransactionRollingBack S_a_TransactionRollingBack Ex_a_TransactionRolledBack S_a_TransactionRolledBack Ex_a_TransactionRollbackOnly S_a_TransactionRollbackOnly Ex_a_TransactionReadOnly S_a_TransactionReadOnly Ex_a_TransactionHeuristicRollback S_a_TransactionHeuristicRollback Ex_a_TransactionHeuristicCommit S_a_TransactionHeuristicCommit Ex_a_TransactionHeuristicMixed S_a_TransactionHeuristicMixed Ex_a_TransactionHeuristicHazard S_a_TransactionHeuristicHazard Ex_a_TransactionStatusUnknown S_a_TransactionStatusUnknown F_TransactionActive_ordinal F_TransactionHeuristicRollback_ordinal F_TransactionHeuristicCommit_ordinal F_TransactionHeuristicMixed_ordinal F_TransactionHeuristicHazard_ordinal F_TransactionCommitting_ordinal F_TransactionCommittedOnePhase_ordinal F_TransactionRollingBack_ordinal F_TransactionStatusUnknown_ordinal F_TransactionRolledBack_ordinal F_TransactionPrepared_ordinal F_TransactionRollbackOnly_ordinal F_TransactionPreparing_ordinal F_TransactionCommitted_ordinal F_TransactionReadOnly_ordinal p e ha hc hk s m _ below hf ((Spec.applies_iff_loose hf).mp happ).1 ⟨rfl, State.Warmed39.refl s, rfl⟩ trivial
  refine ⟨n, _, h1, h2, h3, hpost _ _ _ _ _ _ ⟨Cond.after_iff.mpr rfl, Cond.after_iff.mpr (eq_i res_at (Term.int_eval (1)) rfl), trivial⟩ ⟨hq.1, hq.2.1, (hq.2.2.sift fun y hy => Or.inr (N y hy)).mono (by decide) (by decide)⟩⟩
theorem main_1_1 : Claimed_1_1 := comes_1 fun _ _ _ _ _ _ h hF => ⟨h.1, hF⟩
theorem main_1_2 : Claimed_1_2 := comes_1 fun _ _ _ _ _ _ h hF => ⟨h.2.1, hF⟩
end Jvm.Pilot.@@N@@
namespace Jvm.Pilot.@@N@@
open Jvm Jvm.ClassFile Sem Op Lib Jvm.Free Jvm.Stand Jvm.Pilot.@@N@@.Jvm.D
/-! MADE BY PROGRAM (witnessworld.py) out of the Statement's table words and the real class files: 13 classes; the members and pool entries that the words name. The judged class is class 1, her method 1. -/
namespace start1
open Jvm.ClassFile
def u (s : String) : CpInfo := .utf8 (stringToUtf16 s)
/-- a pool by its gaps: so many unusable entries, then the entry; so many at the end -/
def gap : Nat → List CpInfo → List CpInfo
  | 0, r => r
  | n + 1, r => .unusable :: gap n r
def poolList (es : List (Nat × CpInfo)) (last : Nat) : List CpInfo := es.foldr (fun e r => gap e.1 (e.2 :: r)) (gap last [])
def pool (es : List (Nat × CpInfo)) (last : Nat) : Array CpInfo := ⟨poolList es last⟩
def fileOf (pool : Array CpInfo) (this : Nat) (attrs : Array Attribute := #[]) (ms : Array MethodInfo := #[]) (fl : Nat := 33) (sup : Nat := 0) (ifs : Array Nat := #[]) (fds : Array FieldInfo := #[]) : ClassFile where
  minorVersion := 0
  majorVersion := 65
  constantPool := pool
  accessFlags := fl
  thisClass := this
  superClass := sup
  interfaces := ifs
  fields := fds
  methods := ms
  attributes := attrs
def plain (name : String) (sup : Option ClassId) : Class where
  name := name
  kind := .ordinary
  loader := none
  accessFlags := 33
  super := sup
  interfaces := #[]
  cf := none
  fields := #[]
  methods := #[]
  instanceTypes := #[]
  staticTypes := #[]
  resolved := #[]
  callSites := []
  init := .initialized
  statics := none
  mirror := none

def pool0 : Array CpInfo := pool [(5, u "<init>"), (0, u "()V"), (1, .class_ 10), (1, u "java/lang/Object")] 113

def k0m0 : Method := { name := "<init>", desc := "()V", sig := { parameters := [], returnType := none }, accessFlags := 1, code := none }
/-- java/lang/Object -/
def k0 : Class := { plain "java/lang/Object" none with
  accessFlags := 33
  interfaces := #[]
  cf := some (fileOf pool0 8 #[] #[{ accessFlags := 1, nameIndex := 5, descriptorIndex := 6, attributes := #[] }] 33 0 #[] #[])
  fields := #[]
  methods := #[k0m0]
  instanceTypes := #[]
  staticTypes := #[]
  resolved := Array.replicate 124 none
  statics := none }

def pool1 : Array CpInfo := pool [(2, .class_ 4), (1, u "java/lang/Object"), (0, u "<init>"), (0, u "()V"), (0, .class_ 8), (0, u "com/example/concordat/concordat/TxStatus"), (0, .fieldref 7 10), (0, .nameAndType 11 12), (0, u "TransactionActive"), (0, u "Lcom/example/concordat/concordat/TxStatus;"), (0, .fieldref 7 14), (0, .nameAndType 15 12), (0, u "TransactionPreparing"), (0, .fieldref 7 17), (0, .nameAndType 18 12), (0, u "TransactionPrepared"), (0, .fieldref 7 20), (0, .nameAndType 21 12), (0, u "TransactionCommitting"), (0, .fieldref 7 23), (0, .nameAndType 24 12), (0, u "TransactionCommitted"), (0, .fieldref 7 26), (0, .nameAndType 27 12), (0, u "TransactionCommittedOnePhase"), (0, .fieldref 7 29), (0, .nameAndType 30 12), (0, u "TransactionRollingBack"), (0, .fieldref 7 32), (0, .nameAndType 33 12), (0, u "TransactionRolledBack"), (0, .fieldref 7 35), (0, .nameAndType 36 12), (0, u "TransactionRollbackOnly"), (0, .fieldref 7 38), (0, .nameAndType 39 12), (0, u "TransactionReadOnly"), (0, .fieldref 7 41), (0, .nameAndType 42 12), (0, u "TransactionHeuristicRollback"), (0, .fieldref 7 44), (0, .nameAndType 45 12), (0, u "TransactionHeuristicCommit"), (0, .fieldref 7 47), (0, .nameAndType 48 12), (0, u "TransactionHeuristicMixed"), (0, .fieldref 7 50), (0, .nameAndType 51 12), (0, u "TransactionHeuristicHazard"), (0, .fieldref 7 53), (0, .nameAndType 54 12), (0, u "TransactionStatusUnknown"), (0, .integer 2147483647), (0, .methodref 7 57), (0, .nameAndType 58 59), (0, u "isHeuristic"), (0, u "()Z"), (0, .class_ 61), (0, u "com/example/concordat/concordat/TxStatusIsHeuristicPinLaw"), (2, u "law"), (0, u "(I)Z")] 5

def k1m0 : Method := { name := "<init>", desc := "()V", sig := { parameters := [], returnType := none }, accessFlags := 2, code := none }
def k1c1 : Code := { maxStack := 4, maxLocals := 4, code := code, exceptionTable := #[], attributes := #[] }
def k1m1 : Method := { name := "law", desc := "(I)Z", sig := { parameters := [.int], returnType := some .boolean }, accessFlags := 9, code := some k1c1 }
/-- com/example/concordat/concordat/TxStatusIsHeuristicPinLaw -/
def k1 : Class := { plain "com/example/concordat/concordat/TxStatusIsHeuristicPinLaw" (some 0) with
  accessFlags := 49
  interfaces := #[]
  cf := some (fileOf pool1 60 #[] #[{ accessFlags := 2, nameIndex := 5, descriptorIndex := 6, attributes := #[] }, { accessFlags := 9, nameIndex := 64, descriptorIndex := 65, attributes := #[] }] 49 2 #[] #[])
  fields := #[]
  methods := #[k1m0, k1m1]
  instanceTypes := #[]
  staticTypes := #[]
  resolved := Array.replicate 71 none
  statics := none }

def pool2 : Array CpInfo := pool [(1, .class_ 2), (0, u "java/lang/constant/Constable"), (0, .class_ 4), (0, u "java/lang/Object")] 6

/-- java/lang/constant/Constable -/
def k2 : Class := { plain "java/lang/constant/Constable" (some 0) with
  accessFlags := 1537
  interfaces := #[]
  cf := some (fileOf pool2 1 #[] #[] 1537 3 #[] #[])
  fields := #[]
  methods := #[]
  instanceTypes := #[]
  staticTypes := #[]
  resolved := Array.replicate 11 none
  statics := none }

def pool3 : Array CpInfo := pool [(1, .class_ 2), (0, u "java/lang/Comparable"), (0, .class_ 4), (0, u "java/lang/Object")] 7

/-- java/lang/Comparable -/
def k3 : Class := { plain "java/lang/Comparable" (some 0) with
  accessFlags := 1537
  interfaces := #[]
  cf := some (fileOf pool3 1 #[] #[] 1537 3 #[] #[])
  fields := #[]
  methods := #[]
  instanceTypes := #[]
  staticTypes := #[]
  resolved := Array.replicate 12 none
  statics := none }

def pool4 : Array CpInfo := pool [(1, .class_ 2), (0, u "java/io/Serializable"), (0, .class_ 4), (0, u "java/lang/Object")] 2

/-- java/io/Serializable -/
def k4 : Class := { plain "java/io/Serializable" (some 0) with
  accessFlags := 1537
  interfaces := #[]
  cf := some (fileOf pool4 1 #[] #[] 1537 3 #[] #[])
  fields := #[]
  methods := #[]
  instanceTypes := #[]
  staticTypes := #[]
  resolved := Array.replicate 7 none
  statics := none }

def pool5 : Array CpInfo := pool [(2, .class_ 4), (1, u "java/lang/Enum"), (0, u "name"), (0, u "Ljava/lang/String;"), (2, u "ordinal"), (0, u "I"), (1, .class_ 14), (1, u "java/lang/Object"), (4, u "hash"), (86, .class_ 108), (1, u "java/lang/Enum$EnumDesc"), (2, .class_ 112), (0, u "java/lang/constant/Constable"), (0, .class_ 114), (0, u "java/lang/Comparable"), (0, .class_ 116), (0, u "java/io/Serializable")] 87

/-- java/lang/Enum -/
def k5 : Class := { plain "java/lang/Enum" (some 0) with
  accessFlags := 1057
  interfaces := #[2, 3, 4]
  cf := some (fileOf pool5 2 #[.nestMembers #[106]] #[] 1057 12 #[111, 113, 115] #[{ accessFlags := 18, nameIndex := 5, descriptorIndex := 6, attributes := #[] }, { accessFlags := 18, nameIndex := 9, descriptorIndex := 10, attributes := #[] }, { accessFlags := 2, nameIndex := 19, descriptorIndex := 10, attributes := #[] }])
  fields := #[{ name := "name", type := (.object "java/lang/String"), accessFlags := 18, slot := 0, constantValue := 0 }, { name := "ordinal", type := .int, accessFlags := 18, slot := 1, constantValue := 0 }, { name := "hash", type := .int, accessFlags := 2, slot := 2, constantValue := 0 }]
  methods := #[]
  instanceTypes := #[(.object "java/lang/String"), .int, .int]
  staticTypes := #[]
  resolved := Array.replicate 204 none
  statics := none }

def pool6 : Array CpInfo := pool [(1, .class_ 2), (0, u "com/example/concordat/concordat/TxStatus"), (2, u "TransactionActive"), (0, u "Lcom/example/concordat/concordat/TxStatus;"), (2, u "TransactionPreparing"), (2, u "TransactionPrepared"), (2, u "TransactionCommitting"), (2, u "TransactionCommitted"), (2, u "TransactionCommittedOnePhase"), (2, u "TransactionRollingBack"), (2, u "TransactionRolledBack"), (2, u "TransactionRollbackOnly"), (2, u "TransactionReadOnly"), (0, .fieldref 1 35), (0, .nameAndType 36 6), (0, u "TransactionHeuristicRollback"), (0, .fieldref 1 38), (0, .nameAndType 39 6), (0, u "TransactionHeuristicCommit"), (0, .fieldref 1 41), (0, .nameAndType 42 6), (0, u "TransactionHeuristicMixed"), (0, .fieldref 1 44), (0, .nameAndType 45 6), (0, u "TransactionHeuristicHazard"), (2, u "TransactionStatusUnknown"), (2, u "$VALUES"), (0, u "[Lcom/example/concordat/concordat/TxStatus;"), (6, .class_ 61), (1, u "java/lang/Enum"), (76, u "MEDIA_TYPE"), (0, u "Ljava/lang/String;"), (3, u "PREFIX"), (11, u "()Z"), (0, u "isHeuristic")] 19

def k6c0 : Code := { maxStack := 2, maxLocals := 1, code := prog_44_method_7_code, exceptionTable := #[], attributes := #[] }
def k6m0 : Method := { name := "isHeuristic", desc := "()Z", sig := { parameters := [], returnType := some .boolean }, accessFlags := 0, code := some k6c0 }
/-- com/example/concordat/concordat/TxStatus -/
def k6 : Class := { plain "com/example/concordat/concordat/TxStatus" (some 5) with
  accessFlags := 16432
  interfaces := #[]
  cf := some (fileOf pool6 1 #[] #[{ accessFlags := 0, nameIndex := 156, descriptorIndex := 155, attributes := #[] }] 16432 59 #[] #[{ accessFlags := 16409, nameIndex := 5, descriptorIndex := 6, attributes := #[] }, { accessFlags := 16409, nameIndex := 9, descriptorIndex := 6, attributes := #[] }, { accessFlags := 16409, nameIndex := 12, descriptorIndex := 6, attributes := #[] }, { accessFlags := 16409, nameIndex := 15, descriptorIndex := 6, attributes := #[] }, { accessFlags := 16409, nameIndex := 18, descriptorIndex := 6, attributes := #[] }, { accessFlags := 16409, nameIndex := 21, descriptorIndex := 6, attributes := #[] }, { accessFlags := 16409, nameIndex := 24, descriptorIndex := 6, attributes := #[] }, { accessFlags := 16409, nameIndex := 27, descriptorIndex := 6, attributes := #[] }, { accessFlags := 16409, nameIndex := 30, descriptorIndex := 6, attributes := #[] }, { accessFlags := 16409, nameIndex := 33, descriptorIndex := 6, attributes := #[] }, { accessFlags := 16409, nameIndex := 36, descriptorIndex := 6, attributes := #[] }, { accessFlags := 16409, nameIndex := 39, descriptorIndex := 6, attributes := #[] }, { accessFlags := 16409, nameIndex := 42, descriptorIndex := 6, attributes := #[] }, { accessFlags := 16409, nameIndex := 45, descriptorIndex := 6, attributes := #[] }, { accessFlags := 16409, nameIndex := 48, descriptorIndex := 6, attributes := #[] }, { accessFlags := 24, nameIndex := 138, descriptorIndex := 139, attributes := #[] }, { accessFlags := 26, nameIndex := 143, descriptorIndex := 139, attributes := #[] }, { accessFlags := 4122, nameIndex := 51, descriptorIndex := 52, attributes := #[] }])
  fields := #[{ name := "TransactionActive", type := (.object "com/example/concordat/concordat/TxStatus"), accessFlags := 16409, slot := 0, constantValue := 0 }, { name := "TransactionPreparing", type := (.object "com/example/concordat/concordat/TxStatus"), accessFlags := 16409, slot := 1, constantValue := 0 }, { name := "TransactionPrepared", type := (.object "com/example/concordat/concordat/TxStatus"), accessFlags := 16409, slot := 2, constantValue := 0 }, { name := "TransactionCommitting", type := (.object "com/example/concordat/concordat/TxStatus"), accessFlags := 16409, slot := 3, constantValue := 0 }, { name := "TransactionCommitted", type := (.object "com/example/concordat/concordat/TxStatus"), accessFlags := 16409, slot := 4, constantValue := 0 }, { name := "TransactionCommittedOnePhase", type := (.object "com/example/concordat/concordat/TxStatus"), accessFlags := 16409, slot := 5, constantValue := 0 }, { name := "TransactionRollingBack", type := (.object "com/example/concordat/concordat/TxStatus"), accessFlags := 16409, slot := 6, constantValue := 0 }, { name := "TransactionRolledBack", type := (.object "com/example/concordat/concordat/TxStatus"), accessFlags := 16409, slot := 7, constantValue := 0 }, { name := "TransactionRollbackOnly", type := (.object "com/example/concordat/concordat/TxStatus"), accessFlags := 16409, slot := 8, constantValue := 0 }, { name := "TransactionReadOnly", type := (.object "com/example/concordat/concordat/TxStatus"), accessFlags := 16409, slot := 9, constantValue := 0 }, { name := "TransactionHeuristicRollback", type := (.object "com/example/concordat/concordat/TxStatus"), accessFlags := 16409, slot := 10, constantValue := 0 }, { name := "TransactionHeuristicCommit", type := (.object "com/example/concordat/concordat/TxStatus"), accessFlags := 16409, slot := 11, constantValue := 0 }, { name := "TransactionHeuristicMixed", type := (.object "com/example/concordat/concordat/TxStatus"), accessFlags := 16409, slot := 12, constantValue := 0 }, { name := "TransactionHeuristicHazard", type := (.object "com/example/concordat/concordat/TxStatus"), accessFlags := 16409, slot := 13, constantValue := 0 }, { name := "TransactionStatusUnknown", type := (.object "com/example/concordat/concordat/TxStatus"), accessFlags := 16409, slot := 14, constantValue := 0 }, { name := "MEDIA_TYPE", type := (.object "java/lang/String"), accessFlags := 24, slot := 15, constantValue := 0 }, { name := "PREFIX", type := (.object "java/lang/String"), accessFlags := 26, slot := 16, constantValue := 0 }, { name := "$VALUES", type := (.array (.object "com/example/concordat/concordat/TxStatus")), accessFlags := 4122, slot := 17, constantValue := 0 }]
  methods := #[k6m0]
  instanceTypes := #[(.object "java/lang/String"), .int, .int]
  staticTypes := #[(.object "com/example/concordat/concordat/TxStatus"), (.object "com/example/concordat/concordat/TxStatus"), (.object "com/example/concordat/concordat/TxStatus"), (.object "com/example/concordat/concordat/TxStatus"), (.object "com/example/concordat/concordat/TxStatus"), (.object "com/example/concordat/concordat/TxStatus"), (.object "com/example/concordat/concordat/TxStatus"), (.object "com/example/concordat/concordat/TxStatus"), (.object "com/example/concordat/concordat/TxStatus"), (.object "com/example/concordat/concordat/TxStatus"), (.object "com/example/concordat/concordat/TxStatus"), (.object "com/example/concordat/concordat/TxStatus"), (.object "com/example/concordat/concordat/TxStatus"), (.object "com/example/concordat/concordat/TxStatus"), (.object "com/example/concordat/concordat/TxStatus"), (.object "java/lang/String"), (.object "java/lang/String"), (.array (.object "com/example/concordat/concordat/TxStatus"))]
  resolved := Array.replicate 176 none
  statics := some 0 }

def pool7 : Array CpInfo := pool [(1, u "java/lang/Cloneable"), (0, .class_ 1), (0, u "java/lang/Object"), (0, .class_ 3)] 3

/-- java/lang/Cloneable -/
def k7 : Class := { plain "java/lang/Cloneable" (some 0) with
  accessFlags := 1537
  interfaces := #[]
  cf := some (fileOf pool7 2 #[] #[] 1537 4 #[] #[])
  fields := #[]
  methods := #[]
  instanceTypes := #[]
  staticTypes := #[]
  resolved := Array.replicate 8 none
  statics := none }

/-- the primitive byte -/
def k8 : Class := { plain "byte" none with kind := .primitive 'B', accessFlags := 0x411 }
/-- [B -/
def k9 : Class := { plain "[B" (some 0) with kind := .array 8 .byte, interfaces := #[7, 4], accessFlags := 1041 }

/-- the primitive int -/
def k10 : Class := { plain "int" none with kind := .primitive 'I', accessFlags := 0x411 }
/-- [I -/
def k11 : Class := { plain "[I" (some 0) with kind := .array 10 .int, interfaces := #[7, 4], accessFlags := 1041 }

/-- [Lcom/example/concordat/concordat/TxStatus; -/
def k12 : Class := { plain "[Lcom/example/concordat/concordat/TxStatus;" (some 0) with kind := .array 6 (.object "com/example/concordat/concordat/TxStatus"), interfaces := #[7, 4], accessFlags := 1041 }

def heap : Heap := #[{ cls := 6, slots := #[.ref 1, .ref 2, .ref 3, .ref 4, .ref 5, .ref 6, .ref 7, .ref 8, .ref 9, .ref 10, .ref 11, .ref 12, .ref 13, .ref 14, .ref 15, .null, .null, .null], vm := .statics 6 },
  { cls := 6, slots := #[.null, .int 0, .int 0], vm := .none },
  { cls := 6, slots := #[.null, .int 1, .int 0], vm := .none },
  { cls := 6, slots := #[.null, .int 2, .int 0], vm := .none },
  { cls := 6, slots := #[.null, .int 3, .int 0], vm := .none },
  { cls := 6, slots := #[.null, .int 4, .int 0], vm := .none },
  { cls := 6, slots := #[.null, .int 5, .int 0], vm := .none },
  { cls := 6, slots := #[.null, .int 6, .int 0], vm := .none },
  { cls := 6, slots := #[.null, .int 7, .int 0], vm := .none },
  { cls := 6, slots := #[.null, .int 8, .int 0], vm := .none },
  { cls := 6, slots := #[.null, .int 9, .int 0], vm := .none },
  { cls := 6, slots := #[.null, .int 10, .int 0], vm := .none },
  { cls := 6, slots := #[.null, .int 11, .int 0], vm := .none },
  { cls := 6, slots := #[.null, .int 12, .int 0], vm := .none },
  { cls := 6, slots := #[.null, .int 13, .int 0], vm := .none },
  { cls := 6, slots := #[.null, .int 14, .int 0], vm := .none }]
def classes : Array Class := #[k0, k1, k2, k3, k4, k5, k6, k7, k8, k9, k10, k11, k12]
def interned : List (Array UInt16 × Addr) := []
def slotsUsed : Nat := 63
def theMethod : MethodId := ⟨1, 1⟩
def args0 : Array Value := #[.int 5]
def aboutOver (below : List Frame) : State where
  vm := { classes := classes, interned := interned.toArray }
  heap := heap
  slotsUsed := slotsUsed
  threads := #[{ frames := .invoking theMethod args0 :: below }]
def below0 : List Frame := [.native { method := ⟨0, 0⟩, args := #[] }]
def about1 : State := aboutOver below0
def p0 : Program := .bare "" "" ""
def e0 : Env := launch0.env 0 0 0
theorem w_frames : about1.frames = Frame.invoking theMethod args0 :: below0 := rfl
set_option maxRecDepth 65536 in
theorem w_args : argsFit about1.vm theMethod args0 = true := by decide +kernel
set_option maxRecDepth 65536 in
theorem w_heap : heapFits about1 = true := by decide +kernel
set_option maxRecDepth 65536 in
theorem w_runnable : about1.curStatus? = some .runnable := by decide +kernel
set_option maxRecDepth 65536 in
theorem w_alone : about1.alone = true := by decide +kernel
set_option maxRecDepth 65536 in
theorem w_named : about1.methodNamed? x = some theMethod := by decide +kernel
set_option maxRecDepth 65536 in
theorem w_hears : about1.hears theMethod below0 = true := by decide +kernel
set_option maxRecDepth 65536 in
theorem w_ripe : about1.ripe theMethod args0 below0 = true := by decide +kernel
theorem w_running : about1.status = .running := rfl
set_option maxRecDepth 65536 in
theorem w_room : about1.hasRoom e0.platform room_1 = true :=
  launch0.hasRoom_least _ room_1 (by decide +kernel) (by decide +kernel) (by decide +kernel) (by decide +kernel) (by decide +kernel) (by decide +kernel)
theorem allAtoms_all (ts : List Jvm.Cond) (a : Array Jvm.Value) (st : Jvm.State) : (allAtoms ts).before a st = ts.all (fun c => c.before a st) := by
  induction ts with
  | nil => rfl
  | cons c t ih =>
    show (Jvm.Cond.and c (allAtoms t)).before a st = _
    rw [Jvm.Cond.before_and, ih, List.all_cons]
def words1 : List Jvm.Cond := Jvm.Cond.code x code maxLocals ret :: tables_1
/-- a 'code' word, met by the world's own term for the bytes: nothing is compared byte by byte -/
theorem code_word {y : MethodName} {bytes : ByteArray} {mx : Nat} {rt : Option FieldType} {a : Array Value} {s : State} {m : MethodId} {meth : Method} {c : Code} (h1 : s.methodNamed? y = some m) (h2 : s.vm.method? m = some meth) (h3 : meth.code = some c) (h4 : c.code = bytes)
    (h5 : (c.maxLocals == mx && c.exceptionTable.isEmpty && decide (c.maxStack ≤ mostOperands) && decide (meth.sig.returnType = rt) && !meth.locks && decide (parseMethodDescriptor y.desc = some meth.sig)) = true) : (Jvm.Cond.code y bytes mx rt).before a s = true := by
  simp only [Bool.and_eq_true, beq_iff_eq, Bool.not_eq_true', decide_eq_true_eq] at h5
  obtain ⟨⟨⟨⟨⟨g1, g2⟩, g3⟩, g4⟩, g5⟩, g6⟩ := h5
  simp [Cond.before, Cond.holds, Cond.value, h1, h2, h3, h4, g1, g2, g3, g4, g5, g6]
def isCode : Jvm.Cond → Bool
  | .code _ _ _ _ => true
  | _ => false
theorem all_split {L : List Jvm.Cond} {P : Jvm.Cond → Bool} (h1 : L.all (fun c => isCode c || P c) = true) (h2 : ∀ c ∈ L.filter isCode, P c = true) : L.all P = true := by
  refine List.all_eq_true.mpr fun c hc => ?_
  have h := List.all_eq_true.mp h1 c hc
  rcases Bool.eq_false_or_eq_true (isCode c) with hi | hi
  · exact h2 c (List.mem_filter.mpr ⟨hc, hi⟩)
  · simpa [hi] using h
set_option maxRecDepth 65536 in
theorem w_c0 : (Jvm.Cond.code x code maxLocals ret).before args0 about1 = true := code_word (m := ⟨1, 1⟩) (meth := k1m1) (c := k1c1) (by decide +kernel) rfl rfl rfl (by decide +kernel)
set_option maxRecDepth 65536 in
theorem w_c1 : (Jvm.Cond.code ({ cls := "com/example/concordat/concordat/TxStatus", name := "isHeuristic", desc := "()Z" } : Jvm.MethodName) prog_44_method_7_code (1 : Nat) (Option.some Jvm.ClassFile.FieldType.boolean)).before args0 about1 = true := code_word (m := ⟨6, 0⟩) (meth := k6m0) (c := k6c0) (by decide +kernel) rfl rfl rfl (by decide +kernel)
def codes1 : List Jvm.Cond := [Jvm.Cond.code x code maxLocals ret, Jvm.Cond.code ({ cls := "com/example/concordat/concordat/TxStatus", name := "isHeuristic", desc := "()Z" } : Jvm.MethodName) prog_44_method_7_code (1 : Nat) (Option.some Jvm.ClassFile.FieldType.boolean)]
set_option maxRecDepth 65536 in
theorem codes_eq : words1.filter isCode = codes1 := rfl
theorem w_codes : ∀ c ∈ words1.filter isCode, c.before args0 about1 = true := by
  rw [codes_eq]
  intro c hc
  simp only [codes1, List.mem_cons, List.not_mem_nil, or_false] at hc
  rcases hc with rfl | rfl
  · exact w_c0
  · exact w_c1
set_option maxRecDepth 65536 in
theorem w_t1 : (words1.take 24).all (fun c => isCode c || c.before args0 about1) = true := by decide +kernel
set_option maxRecDepth 65536 in
theorem w_t2 : (words1.drop 24).all (fun c => isCode c || c.before args0 about1) = true := by decide +kernel
theorem w_tables : (allAtoms (Jvm.Cond.code x code maxLocals ret :: tables_1)).before args0 about1 = true := by
  rw [allAtoms_all]
  show words1.all (fun c => c.before args0 about1) = true
  refine all_split ?_ w_codes
  rw [← List.take_append_drop 24 words1, List.all_append, w_t1, w_t2]
  rfl
set_option maxRecDepth 65536 in
theorem w_case : (Jvm.Cond.and given_1 narrow_1).before args0 about1 = true := by decide +kernel
theorem w_applies : (headSpec (Jvm.Cond.code x code maxLocals ret :: tables_1) room_1).applies x e0.platform about1 = true :=
  (Spec.applies_iff w_frames).mpr ⟨w_running, w_runnable, w_alone, w_named, w_hears, w_ripe, w_room, w_tables⟩
theorem atStart : AtStart classFile x code maxLocals ret World_1 tables_1 room_1 Calls_1 rest_1 Pre_1 launch0 p0 e0 about1 theMethod args0 below0 :=
  ⟨lists_1, trivial, launch0.admits_env _ _ _, launch0.least_env, fairChoices_fair.cas, fairChoices_fair.clock, w_frames, w_args, w_heap, w_applies, trivial, trivial, w_case⟩
end start1
theorem witness_1 : WitnessClaimed_1 := ⟨start1.p0, start1.e0, start1.about1, start1.theMethod, start1.args0, start1.below0, start1.atStart⟩
end Jvm.Pilot.@@N@@
