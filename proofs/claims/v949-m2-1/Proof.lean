import JvmDerived
import JvmDerived.Pilot.@@N@@Statement
import JvmDerived.Pilot.@@N@@Code
set_option linter.unusedVariables false
set_option linter.unusedSimpArgs false
namespace Jvm.RoadKit
open Sem ClassFile Op Lib Jvm.Stand Jvm.Free Jvm.LawKit
section New
variable {p : Program} {l : Launch} {e : Env} {R : Room} {s : State} {m : MethodId} {args : Array Value} {below : List Frame} {meth : Method} {c : Code} {T : State} {locs : List Loc} {cells slots : Nat}
theorem retI (X : Stand p l e R s m args below meth c T locs cells slots) (hx : p.tables.exec = Jvm.exec) {pc : Nat} {Ls : Array Slot} {z : Int32} {rest : List Value} (hret : meth.sig.returnType = some .int) (hd : decode c.code pc = .ok (.ireturn, 1)) {fs : List Frame}
    (hl : ∀ (f : JFrame) (acts : List Action), f.method = m → f.locked = none → f.entered = [] → (doReturn e (T.setTop f) acts (some (.int z))).1 = T.setFrames fs) : Steps p.tables e below (T.setTop (mkF m pc Ls (.int z :: rest))) (T.setFrames fs) := by
  have hm' : T.vm.method? m = some meth := X.method'
  have hn : narrow .int (.int z) = .int z := rfl
  show Steps p.tables e below (T.setTop { method := m, pc := pc, locals := Ls, stack := _ :: rest, locked := none }) _
  jvm_step X.here [X.here.top, hx, hd, hm', hret, hn]
  first | (intro acts; rw [hl _ acts rfl rfl rfl]) | rw [hl _ _ rfl rfl rfl]
  exact Steps.refl _
end New
section Own
variable {p : Program} {l : Launch} {e : Env} {R : Room} {s : State} {m : MethodId} {args : Array Value} {below : List Frame} {meth : Method} {c : Code} {T A B : State} {locs : List Loc} {cells slots k n : Nat} {Q : Option Value → Heap → List Loc → Prop}
/-- from A the walk comes to its end, and Q holds there -/
def own_Go (p : Program) (e : Env) (below : List Frame) (s : State) (Q : Option Value → Heap → List Loc → Prop) (k n : Nat) (A : State) : Prop :=
  ∃ s₂ o, Steps p.tables e below A s₂ ∧ s₂.status = .running ∧ Ended s₂ below o ∧ ∃ v L, o = .returned v ∧ Q v s₂.heap L ∧ FrameEnd s o s₂ L k n
theorem own_st (h : ∀ t, Steps p.tables e below B t → Steps p.tables e below A t) (g : own_Go p e below s Q k n B) : own_Go p e below s Q k n A := by
  obtain ⟨s₂, o, h1, r⟩ := g
  exact ⟨s₂, o, h _ h1, r⟩
theorem own_tr (h : Steps p.tables e below A B) (g : own_Go p e below s Q k n B) : own_Go p e below s Q k n A := own_st (fun _ q => h.trans q) g
theorem own_end (X : Stand p l e R s m args below meth c T locs cells slots) (hlk : meth.locks = false) {v : Option Value} (hv : meth.sig.returnType = none → v = none) (hk : cells ≤ k) (hn : slots ≤ n) (hQ : Q v T.heap locs) {g : JFrame}
    (hgo : ∀ fs, (∀ (f : JFrame) (acts : List Action), f.method = m → f.locked = none → f.entered = [] → (doReturn e (T.setTop f) acts v).1 = T.setFrames fs) → Steps p.tables e below (T.setTop g) (T.setFrames fs)) : own_Go p e below s Q k n (T.setTop g) := by
  obtain ⟨fs, hr, hrun, hended, hW, hsame⟩ := X.leave hv hlk
  exact ⟨_, _, hgo fs hr, hrun, hended, v, locs, rfl, hQ, ⟨_, rfl⟩, hW, hsame.mono hk hn⟩
theorem own_retI (X : Stand p l e R s m args below meth c T locs cells slots) (hx : p.tables.exec = Jvm.exec) (hlk : meth.locks = false) {pc : Nat} {Ls : Array Slot} {z : Int32} {rest : List Value} (hret : meth.sig.returnType = some .int) (hd : decode c.code pc = .ok (.ireturn, 1)) (hk : cells ≤ k) (hn : slots ≤ n) (hQ : Q (some (.int z)) T.heap locs) :
    own_Go p e below s Q k n (T.setTop (mkF m pc Ls (.int z :: rest))) := own_end X hlk (fun h => by rw [hret] at h; cases h) hk hn hQ fun fs hr => retI X hx hret hd hr
theorem own_retN (X : Stand p l e R s m args below meth c T locs cells slots) (hx : p.tables.exec = Jvm.exec) (hlk : meth.locks = false) {pc : Nat} {Ls : Array Slot} {z z' : Int32} {rest : List Value} {t : FieldType} (hret : meth.sig.returnType = some t) (ht : t = .boolean ∨ t = .byte ∨ t = .char ∨ t = .short) (hz : nar t z = z') (hd : decode c.code pc = .ok (.ireturn, 1)) (hk : cells ≤ k) (hn : slots ≤ n) (hQ : Q (some (.int z')) T.heap locs) :
    own_Go p e below s Q k n (T.setTop (mkF m pc Ls (.int z :: rest))) := own_end X hlk (v := some (.int (nar t z))) (fun h => by rw [hret] at h; cases h) hk hn (hz ▸ hQ) fun fs hr => retN X hx hret ht hd hr
theorem own_retJ (X : Stand p l e R s m args below meth c T locs cells slots) (hx : p.tables.exec = Jvm.exec) (hlk : meth.locks = false) {pc : Nat} {Ls : Array Slot} {z : Int64} {rest : List Value} (hret : meth.sig.returnType = some .long) (hd : decode c.code pc = .ok (.lreturn, 1)) (hk : cells ≤ k) (hn : slots ≤ n) (hQ : Q (some (.long z)) T.heap locs) :
    own_Go p e below s Q k n (T.setTop (mkF m pc Ls (.long z :: rest))) := own_end X hlk (fun h => by rw [hret] at h; cases h) hk hn hQ fun fs hr => retOut X hx hret rfl (Or.inr (Or.inl ⟨rfl, rfl, _, rfl⟩)) hd hr
theorem own_retA (X : Stand p l e R s m args below meth c T locs cells slots) (hx : p.tables.exec = Jvm.exec) (hlk : meth.locks = false) {pc : Nat} {Ls : Array Slot} {w : Value} {t : FieldType} {rest : List Value} (hret : meth.sig.returnType = some t) (hw : w.isRef = true) (hd : decode c.code pc = .ok (.areturn, 1)) (hk : cells ≤ k) (hn : slots ≤ n) (hQ : Q (some w) T.heap locs) (ht : t.isReference = true := by rfl) :
    own_Go p e below s Q k n (T.setTop (mkF m pc Ls (w :: rest))) := own_end X hlk (fun h => by rw [hret] at h; cases h) hk hn hQ fun fs hr => retOut X hx hret (by cases w <;> first | (cases hw; done) | (cases t <;> first | (cases ht; done) | rfl)) (Or.inr (Or.inr (Or.inr (Or.inr ⟨rfl, ht, hw⟩)))) hd hr
theorem own_ret0 (X : Stand p l e R s m args below meth c T locs cells slots) (hx : p.tables.exec = Jvm.exec) (hlk : meth.locks = false) {pc : Nat} {Ls : Array Slot} (hret : meth.sig.returnType = none) (hd : decode c.code pc = .ok (.return_, 1)) (hk : cells ≤ k) (hn : slots ≤ n) (hQ : Q none T.heap locs) :
    own_Go p e below s Q k n (T.setTop (mkF m pc Ls [])) := own_end X hlk (fun _ => rfl) hk hn hQ fun fs hr => X.returnOut hx hret hd hr
end Own
theorem own_narR {C : String} {v : Value} (h : v.isRef = true) : narrow (.object C) v = v := by cases v <;> first | rfl | (cases h; done)
theorem own_fitR {C : String} {v : Value} (h : v.isRef = true) : fits (.object C) v = true := by cases v <;> first | rfl | (cases h; done)
theorem own_hp {T : State} {h : Heap} {a : Addr} {c : Cell} (e : T.heap = h) (q : h[a]? = some c) : T.heap[a]? = some c := e ▸ q
theorem own_pad (n : Nat) (d : Value) (i : Nat) : (List.replicate n d).getD i d = ([] : List Value).getD i d := by
  have h := pad_rep [] d n i
  simpa using h
end Jvm.RoadKit
namespace Jvm.Pilot.@@N@@
open Jvm Jvm.ClassFile Sem Op Lib Jvm.Free Jvm.Stand Jvm.LawKit Jvm.RoadKit Bundle Jvm.Pilot.@@N@@.Jvm.D
theorem own_eqV {args : Array Value} {first s : State} {o : Option Outcome} {idx : List Nat} {t u : Term} {w : Value} (h : (Cond.eq t u).value args first o s idx = some true) (hu : u.eval args first o idx s = some w) : t.eval args first o idx s = some w := by
  simp only [Cond.value, hu] at h
  cases ht : t.eval args first o idx s with
  | none => simp [ht] at h
  | some v => cases v <;> cases w <;> simp_all

theorem own_rem (x n : Int32) (hn : 0 < n.toInt) : 0 ≤ ((x &&& (2147483647 : Int32)) % n).toInt ∧ ((x &&& (2147483647 : Int32)) % n).toInt < n.toInt := by
  have h : ¬ (x &&& (2147483647 : Int32)) < 0 := by
    rw [XT.and_neg32]
    intro h
    exact absurd h.2 (by decide)
  rw [XT.negI32] at h
  rw [Int32.toInt_mod]
  exact ⟨Int.tmod_nonneg _ (by omega), Int.tmod_lt_of_pos _ hn⟩
theorem own_nat {k : Int32} {n : Nat} (hn : n ≤ 2147483647) (h0 : 0 ≤ k.toInt) (h1 : k.toInt < n) : ∃ i : Nat, i < n ∧ k = i.toInt32 :=
  ⟨k.toInt.toNat, by omega, Int32.toInt_inj.mp (by rw [len_toInt (by omega)]; omega)⟩
theorem own_remN (x m : Int32) (n : Nat) (hm : m.toInt = n) (hn : 0 < n) (hn' : n ≤ 2147483647) : ∃ i : Nat, i < n ∧ (x &&& (2147483647 : Int32)) % m = i.toInt32 := by
  have h := own_rem x m (by omega)
  exact own_nat hn' h.1 (by omega)
theorem own_lits15 (x : Int32) : (x &&& (2147483647 : Int32)) % (15 : Int32) = 0 ∨ (x &&& (2147483647 : Int32)) % (15 : Int32) = 1 ∨ (x &&& (2147483647 : Int32)) % (15 : Int32) = 2 ∨ (x &&& (2147483647 : Int32)) % (15 : Int32) = 3 ∨ (x &&& (2147483647 : Int32)) % (15 : Int32) = 4 ∨ (x &&& (2147483647 : Int32)) % (15 : Int32) = 5 ∨ (x &&& (2147483647 : Int32)) % (15 : Int32) = 6 ∨ (x &&& (2147483647 : Int32)) % (15 : Int32) = 7 ∨ (x &&& (2147483647 : Int32)) % (15 : Int32) = 8 ∨ (x &&& (2147483647 : Int32)) % (15 : Int32) = 9 ∨ (x &&& (2147483647 : Int32)) % (15 : Int32) = 10 ∨ (x &&& (2147483647 : Int32)) % (15 : Int32) = 11 ∨ (x &&& (2147483647 : Int32)) % (15 : Int32) = 12 ∨ (x &&& (2147483647 : Int32)) % (15 : Int32) = 13 ∨ (x &&& (2147483647 : Int32)) % (15 : Int32) = 14 := by
  obtain ⟨i, hi, e⟩ := own_remN x 15 15 (by decide) (by decide) (by decide)
  rw [e]
  have h : i = 0 ∨ i = 1 ∨ i = 2 ∨ i = 3 ∨ i = 4 ∨ i = 5 ∨ i = 6 ∨ i = 7 ∨ i = 8 ∨ i = 9 ∨ i = 10 ∨ i = 11 ∨ i = 12 ∨ i = 13 ∨ i = 14 := by omega
  rcases h with rfl | rfl | rfl | rfl | rfl | rfl | rfl | rfl | rfl | rfl | rfl | rfl | rfl | rfl | rfl <;> decide
def own_is (w0 w1 r : Addr) : Int32 := if r = w0 then 1 else if r = w1 then 1 else 0
theorem own_d_prog_44_method_6_code_0 : decode prog_44_method_6_code 0 = .ok (.aload_n 0, 1) := by decide +kernel
theorem own_d_prog_44_method_6_code_1 : decode prog_44_method_6_code 1 = .ok (.getstatic 16, 3) := by decide +kernel
theorem own_d_prog_44_method_6_code_4 : decode prog_44_method_6_code 4 = .ok (.if_acmp .eq 10, 3) := by decide +kernel
theorem own_d_prog_44_method_6_code_7 : decode prog_44_method_6_code 7 = .ok (.aload_n 0, 1) := by decide +kernel
theorem own_d_prog_44_method_6_code_8 : decode prog_44_method_6_code 8 = .ok (.getstatic 19, 3) := by decide +kernel
theorem own_d_prog_44_method_6_code_11 : decode prog_44_method_6_code 11 = .ok (.if_acmp .ne 7, 3) := by decide +kernel
theorem own_d_prog_44_method_6_code_14 : decode prog_44_method_6_code 14 = .ok (.iconst 1, 1) := by decide +kernel
theorem own_d_prog_44_method_6_code_15 : decode prog_44_method_6_code 15 = .ok (.goto 4, 3) := by decide +kernel
theorem own_d_prog_44_method_6_code_18 : decode prog_44_method_6_code 18 = .ok (.iconst 0, 1) := by decide +kernel
theorem own_d_prog_44_method_6_code_19 : decode prog_44_method_6_code 19 = .ok (.ireturn, 1) := by decide +kernel
theorem own_pn0 : plainFor (⟨"com/example/concordat/concordat/TxStatus", "isCommitted", "()Z"⟩ : MethodName) = true := by decide +kernel
def own_rm_is_Q (Z : State) (r : Addr) (w0 : Addr) (w1 : Addr) (h0 : Heap) (n0 : Nat) (v : Option Value) (h : Heap) (L : List Loc) : Prop := Fr n0 L ∧ v = some (.int (own_is w0 w1 r)) ∧ h = h0
theorem own_rm_is_ef (m : MethodId) (r : Addr)  : entryFrame m #[(.ref r)] 1 = mkF m 0 #[.val (.ref r)] [] := by first | (simp [entryFrame, mkF, argsToLocals, Value.category]; done) | rfl
set_option maxRecDepth 65536 in
set_option maxHeartbeats 40000000 in
theorem own_rm_is (l : Launch) (Z : State) (a0 : Array Value) (hw : ∀ d ∈ tables_1, d.before a0 Z = true) (ws : List Jvm.Cond) (r : Addr) (w0 : Addr) (w1 : Addr) (h0 : Heap) (n0 : Nat) (Z0 : n0 ≤ h0.size) (O0 : Old Z n0 h0) (S0 : Sta Z Z.heap "com/example/concordat/concordat/TxStatus" "TransactionCommitted" "Lcom/example/concordat/concordat/TxStatus;" (.ref w0)) (S1 : Sta Z Z.heap "com/example/concordat/concordat/TxStatus" "TransactionCommittedOnePhase" "Lcom/example/concordat/concordat/TxStatus;" (.ref w1)) :
    MetFree l (⟨"com/example/concordat/concordat/TxStatus", "isCommitted", "()Z"⟩ : MethodName) (head1 (Jvm.Cond.code (⟨"com/example/concordat/concordat/TxStatus", "isCommitted", "()Z"⟩ : MethodName) prog_44_method_6_code 1 (some .boolean) :: ws) ({ frames := 0, cells := 0, slots := 0, locals := 0 } : Room)) (fun aQ UQ => aQ = #[(.ref r)] ∧ Z.Warmed39 UQ.vm ∧ UQ.heap = h0) (fun _ _ _ _ _ => True) (fun _ UQ oQ U2 => ∃ vQ LQ, oQ = .returned vQ ∧ own_rm_is_Q Z r w0 w1 h0 n0 vQ U2.heap LQ ∧ FrameEnd UQ oQ U2 LQ ({ frames := 0, cells := 0, slots := 0, locals := 0 } : Room).cells ({ frames := 0, cells := 0, slots := 0, locals := 0 } : Room).slots) := by
  refine MetFree.of_bodySF own_pn0 hisR ?_
  intro p e s m args below meth c s₁ Bd hml0 hP hK
  obtain ⟨rfl, hZ, hh⟩ := hP
  have hx := Bd.exec
  have hby := Bd.bytes
  have hml : c.maxLocals = 1 := hml0
  have hlk := BodyLoose.notSynchronized Bd
  have hown : s.vm.findClass "com/example/concordat/concordat/TxStatus" = some m.cls := findClass_of_methodNamed Bd.named
  have hnm := (name_of_methodNamed Bd.named Bd.method).1
  have X0 : Stand p l e ({ frames := 0, cells := 0, slots := 0, locals := 0 } : Room) s m #[(.ref r)] below meth c s₁ [] 0 0 := Stand.of_body Bd
  have e0 : s₁.heap = h0 := by rw [← hh, Bd.state]; rfl
  have N0 := Fr.nil n0
  show own_Go p e below s (own_rm_is_Q Z r w0 w1 h0 n0) ({ frames := 0, cells := 0, slots := 0, locals := 0 } : Room).cells ({ frames := 0, cells := 0, slots := 0, locals := 0 } : Room).slots (s₁.setTop (entryFrame m #[(.ref r)] 1))
  rw [own_rm_is_ef]
  show own_Go p e below s _ _ _ (s₁.setTop (mkF m 0 #[.val (.ref r)] []))
  refine own_st (fun _ kQ => XS.aloadN X0.here hx rfl (hb hby own_d_prog_44_method_6_code_0) rfl rfl kQ) ?_
  show own_Go p e below s _ _ _ (s₁.setTop (mkF m 1 #[.val (.ref r)] [(.ref r)]))
  have F1 : Sta Z h0 "com/example/concordat/concordat/TxStatus" "TransactionCommitted" "Lcom/example/concordat/concordat/TxStatus;" (.ref w0) := S0.ext O0.2
  obtain ⟨T2, X2, e2, st2⟩ := getS2 X0 hx hZ hown (host := "") (Or.inl (hw _ (List.mem_of_getElem? (i := 41) rfl))) Via.refl e0 F1 (g := (mkF m 1 #[.val (.ref r)] [(.ref r)])) rfl (hb hby own_d_prog_44_method_6_code_1)
  refine own_st st2 ?_
  show own_Go p e below s _ _ _ (T2.setTop (mkF m 4 #[.val (.ref r)] [(.ref w0), (.ref r)]))
  by_cases hc3 : r = w0
  · refine own_st (fun _ kQ => XT.acmpYes X2.here hx rfl (pc0 := 4) (pc' := 14) rfl (hb hby own_d_prog_44_method_6_code_4) rfl rfl rfl (XT.aa_eq_t (congrArg Value.ref hc3)) (by decide) (by decide) kQ) ?_
    show own_Go p e below s _ _ _ (T2.setTop (mkF m 14 #[.val (.ref r)] []))
    refine own_st (fun _ kQ => XT.iconstV X2.here hx rfl (1 : Int32) (hb hby own_d_prog_44_method_6_code_14) (by decide) kQ) ?_
    show own_Go p e below s _ _ _ (T2.setTop (mkF m 15 #[.val (.ref r)] [(.int (1 : Int32))]))
    refine own_st (fun _ kQ => XS.goto X2.here hx rfl (pc0 := 15) (pc' := 19) rfl (hb hby own_d_prog_44_method_6_code_15) (by decide) (by decide) kQ) ?_
    show own_Go p e below s _ _ _ (T2.setTop (mkF m 19 #[.val (.ref r)] [(.int (1 : Int32))]))
    refine own_retN X2 hx hlk Bd.returns (t := .boolean) (z' := (1 : Int32)) (by simp) (by decide) (hb hby own_d_prog_44_method_6_code_19) (by decide) (by decide) ?_
    rw [e2]
    exact ⟨N0, (by unfold own_is; rw [if_pos hc3]), rfl⟩
  · refine own_st (fun _ kQ => XT.acmpNo X2.here hx rfl (hb hby own_d_prog_44_method_6_code_4) rfl rfl rfl (XT.aa_eq_f (fun q => hc3 (Value.ref.inj q))) kQ) ?_
    show own_Go p e below s _ _ _ (T2.setTop (mkF m 7 #[.val (.ref r)] []))
    refine own_st (fun _ kQ => XS.aloadN X2.here hx rfl (hb hby own_d_prog_44_method_6_code_7) rfl rfl kQ) ?_
    show own_Go p e below s _ _ _ (T2.setTop (mkF m 8 #[.val (.ref r)] [(.ref r)]))
    have F4 : Sta Z h0 "com/example/concordat/concordat/TxStatus" "TransactionCommittedOnePhase" "Lcom/example/concordat/concordat/TxStatus;" (.ref w1) := S1.ext O0.2
    obtain ⟨T5, X5, e5, st5⟩ := getS2 X2 hx hZ hown (host := "") (Or.inl (hw _ (List.mem_of_getElem? (i := 42) rfl))) Via.refl e2 F4 (g := (mkF m 8 #[.val (.ref r)] [(.ref r)])) rfl (hb hby own_d_prog_44_method_6_code_8)
    refine own_st st5 ?_
    show own_Go p e below s _ _ _ (T5.setTop (mkF m 11 #[.val (.ref r)] [(.ref w1), (.ref r)]))
    by_cases hc6 : r = w1
    · refine own_st (fun _ kQ => XT.acmpNo X5.here hx rfl (hb hby own_d_prog_44_method_6_code_11) rfl rfl rfl (XT.aa_ne_f (congrArg Value.ref hc6)) kQ) ?_
      show own_Go p e below s _ _ _ (T5.setTop (mkF m 14 #[.val (.ref r)] []))
      refine own_st (fun _ kQ => XT.iconstV X5.here hx rfl (1 : Int32) (hb hby own_d_prog_44_method_6_code_14) (by decide) kQ) ?_
      show own_Go p e below s _ _ _ (T5.setTop (mkF m 15 #[.val (.ref r)] [(.int (1 : Int32))]))
      refine own_st (fun _ kQ => XS.goto X5.here hx rfl (pc0 := 15) (pc' := 19) rfl (hb hby own_d_prog_44_method_6_code_15) (by decide) (by decide) kQ) ?_
      show own_Go p e below s _ _ _ (T5.setTop (mkF m 19 #[.val (.ref r)] [(.int (1 : Int32))]))
      refine own_retN X5 hx hlk Bd.returns (t := .boolean) (z' := (1 : Int32)) (by simp) (by decide) (hb hby own_d_prog_44_method_6_code_19) (by decide) (by decide) ?_
      rw [e5]
      exact ⟨N0, (by unfold own_is; rw [if_neg hc3, if_pos hc6]), rfl⟩
    · refine own_st (fun _ kQ => XT.acmpYes X5.here hx rfl (pc0 := 11) (pc' := 18) rfl (hb hby own_d_prog_44_method_6_code_11) rfl rfl rfl (XT.aa_ne_t (fun q => hc6 (Value.ref.inj q))) (by decide) (by decide) kQ) ?_
      show own_Go p e below s _ _ _ (T5.setTop (mkF m 18 #[.val (.ref r)] []))
      refine own_st (fun _ kQ => XT.iconstV X5.here hx rfl (0 : Int32) (hb hby own_d_prog_44_method_6_code_18) (by decide) kQ) ?_
      show own_Go p e below s _ _ _ (T5.setTop (mkF m 19 #[.val (.ref r)] [(.int (0 : Int32))]))
      refine own_retN X5 hx hlk Bd.returns (t := .boolean) (z' := (0 : Int32)) (by simp) (by decide) (hb hby own_d_prog_44_method_6_code_19) (by decide) (by decide) ?_
      rw [e5]
      exact ⟨N0, (by unfold own_is; rw [if_neg hc3, if_neg hc6]), rfl⟩
theorem own_pn1 : plainFor (⟨"com/example/concordat/concordat/TxStatusIsCommittedPinLaw", "law", "(I)Z"⟩ : MethodName) = true := by decide +kernel
theorem own_pd0 : parseMethodDescriptor "()Z" = some ⟨[], some .boolean⟩ := by decide +kernel
def own_law_Q (Z : State) (n0 : Nat) (v : Option Value) (h : Heap) (L : List Loc) : Prop := Fr n0 L ∧ v = some (.int 1)
theorem own_law_ef (m : MethodId) (p1 : Int32) : entryFrame m #[(.int p1)] maxLocals = mkF m 0 #[.val (.int p1), .unset, .unset, .unset] [] := by first | (simp [entryFrame, mkF, argsToLocals, Value.category, maxLocals]; done) | rfl
set_option maxRecDepth 65536 in
set_option maxHeartbeats 40000000 in
theorem own_law (l : Launch) (Z : State) (a0 : Array Value) (hw : ∀ d ∈ tables_1, d.before a0 Z = true) (ws : List Jvm.Cond) (p1 : Int32) (a_TransactionActive : Addr) (a_TransactionPreparing : Addr) (a_TransactionPrepared : Addr) (a_TransactionCommitting : Addr) (a_TransactionCommitted : Addr) (a_TransactionCommittedOnePhase : Addr) (a_TransactionRollingBack : Addr) (a_TransactionRolledBack : Addr) (a_TransactionRollbackOnly : Addr) (a_TransactionReadOnly : Addr) (a_TransactionHeuristicRollback : Addr) (a_TransactionHeuristicCommit : Addr) (a_TransactionHeuristicMixed : Addr) (a_TransactionHeuristicHazard : Addr) (a_TransactionStatusUnknown : Addr) (h0 : Heap) (n0 : Nat) (Z0 : n0 ≤ h0.size) (O0 : Old Z n0 h0) (Ex_a_TransactionActive : Exa Z Z.heap a_TransactionActive "com/example/concordat/concordat/TxStatus") (S_a_TransactionActive : Sta Z Z.heap "com/example/concordat/concordat/TxStatus" "TransactionActive" "Lcom/example/concordat/concordat/TxStatus;" (.ref a_TransactionActive)) (Ex_a_TransactionPreparing : Exa Z Z.heap a_TransactionPreparing "com/example/concordat/concordat/TxStatus") (S_a_TransactionPreparing : Sta Z Z.heap "com/example/concordat/concordat/TxStatus" "TransactionPreparing" "Lcom/example/concordat/concordat/TxStatus;" (.ref a_TransactionPreparing)) (Ex_a_TransactionPrepared : Exa Z Z.heap a_TransactionPrepared "com/example/concordat/concordat/TxStatus") (S_a_TransactionPrepared : Sta Z Z.heap "com/example/concordat/concordat/TxStatus" "TransactionPrepared" "Lcom/example/concordat/concordat/TxStatus;" (.ref a_TransactionPrepared)) (Ex_a_TransactionCommitting : Exa Z Z.heap a_TransactionCommitting "com/example/concordat/concordat/TxStatus") (S_a_TransactionCommitting : Sta Z Z.heap "com/example/concordat/concordat/TxStatus" "TransactionCommitting" "Lcom/example/concordat/concordat/TxStatus;" (.ref a_TransactionCommitting)) (Ex_a_TransactionCommitted : Exa Z Z.heap a_TransactionCommitted "com/example/concordat/concordat/TxStatus") (S_a_TransactionCommitted : Sta Z Z.heap "com/example/concordat/concordat/TxStatus" "TransactionCommitted" "Lcom/example/concordat/concordat/TxStatus;" (.ref a_TransactionCommitted)) (Ex_a_TransactionCommittedOnePhase : Exa Z Z.heap a_TransactionCommittedOnePhase "com/example/concordat/concordat/TxStatus") (S_a_TransactionCommittedOnePhase : Sta Z Z.heap "com/example/concordat/concordat/TxStatus" "TransactionCommittedOnePhase" "Lcom/example/concordat/concordat/TxStatus;" (.ref a_TransactionCommittedOnePhase)) (Ex_a_TransactionRollingBack : Exa Z Z.heap a_TransactionRollingBack "com/example/concordat/concordat/TxStatus") (S_a_TransactionRollingBack : Sta Z Z.heap "com/example/concordat/concordat/TxStatus" "TransactionRollingBack" "Lcom/example/concordat/concordat/TxStatus;" (.ref a_TransactionRollingBack)) (Ex_a_TransactionRolledBack : Exa Z Z.heap a_TransactionRolledBack "com/example/concordat/concordat/TxStatus") (S_a_TransactionRolledBack : Sta Z Z.heap "com/example/concordat/concordat/TxStatus" "TransactionRolledBack" "Lcom/example/concordat/concordat/TxStatus;" (.ref a_TransactionRolledBack)) (Ex_a_TransactionRollbackOnly : Exa Z Z.heap a_TransactionRollbackOnly "com/example/concordat/concordat/TxStatus") (S_a_TransactionRollbackOnly : Sta Z Z.heap "com/example/concordat/concordat/TxStatus" "TransactionRollbackOnly" "Lcom/example/concordat/concordat/TxStatus;" (.ref a_TransactionRollbackOnly)) (Ex_a_TransactionReadOnly : Exa Z Z.heap a_TransactionReadOnly "com/example/concordat/concordat/TxStatus") (S_a_TransactionReadOnly : Sta Z Z.heap "com/example/concordat/concordat/TxStatus" "TransactionReadOnly" "Lcom/example/concordat/concordat/TxStatus;" (.ref a_TransactionReadOnly)) (Ex_a_TransactionHeuristicRollback : Exa Z Z.heap a_TransactionHeuristicRollback "com/example/concordat/concordat/TxStatus") (S_a_TransactionHeuristicRollback : Sta Z Z.heap "com/example/concordat/concordat/TxStatus" "TransactionHeuristicRollback" "Lcom/example/concordat/concordat/TxStatus;" (.ref a_TransactionHeuristicRollback)) (Ex_a_TransactionHeuristicCommit : Exa Z Z.heap a_TransactionHeuristicCommit "com/example/concordat/concordat/TxStatus") (S_a_TransactionHeuristicCommit : Sta Z Z.heap "com/example/concordat/concordat/TxStatus" "TransactionHeuristicCommit" "Lcom/example/concordat/concordat/TxStatus;" (.ref a_TransactionHeuristicCommit)) (Ex_a_TransactionHeuristicMixed : Exa Z Z.heap a_TransactionHeuristicMixed "com/example/concordat/concordat/TxStatus") (S_a_TransactionHeuristicMixed : Sta Z Z.heap "com/example/concordat/concordat/TxStatus" "TransactionHeuristicMixed" "Lcom/example/concordat/concordat/TxStatus;" (.ref a_TransactionHeuristicMixed)) (Ex_a_TransactionHeuristicHazard : Exa Z Z.heap a_TransactionHeuristicHazard "com/example/concordat/concordat/TxStatus") (S_a_TransactionHeuristicHazard : Sta Z Z.heap "com/example/concordat/concordat/TxStatus" "TransactionHeuristicHazard" "Lcom/example/concordat/concordat/TxStatus;" (.ref a_TransactionHeuristicHazard)) (Ex_a_TransactionStatusUnknown : Exa Z Z.heap a_TransactionStatusUnknown "com/example/concordat/concordat/TxStatus") (S_a_TransactionStatusUnknown : Sta Z Z.heap "com/example/concordat/concordat/TxStatus" "TransactionStatusUnknown" "Lcom/example/concordat/concordat/TxStatus;" (.ref a_TransactionStatusUnknown)) (F_TransactionActive_ordinal : Fld Z Z.heap a_TransactionActive "java/lang/Enum" "ordinal" "I" (.int (0 : Int32))) (F_TransactionCommitted_ordinal : Fld Z Z.heap a_TransactionCommitted "java/lang/Enum" "ordinal" "I" (.int (4 : Int32))) (F_TransactionCommittedOnePhase_ordinal : Fld Z Z.heap a_TransactionCommittedOnePhase "java/lang/Enum" "ordinal" "I" (.int (5 : Int32))) (F_TransactionCommitting_ordinal : Fld Z Z.heap a_TransactionCommitting "java/lang/Enum" "ordinal" "I" (.int (3 : Int32))) (F_TransactionHeuristicHazard_ordinal : Fld Z Z.heap a_TransactionHeuristicHazard "java/lang/Enum" "ordinal" "I" (.int (13 : Int32))) (F_TransactionRollingBack_ordinal : Fld Z Z.heap a_TransactionRollingBack "java/lang/Enum" "ordinal" "I" (.int (6 : Int32))) (F_TransactionStatusUnknown_ordinal : Fld Z Z.heap a_TransactionStatusUnknown "java/lang/Enum" "ordinal" "I" (.int (14 : Int32))) (F_TransactionRolledBack_ordinal : Fld Z Z.heap a_TransactionRolledBack "java/lang/Enum" "ordinal" "I" (.int (7 : Int32))) (F_TransactionPrepared_ordinal : Fld Z Z.heap a_TransactionPrepared "java/lang/Enum" "ordinal" "I" (.int (2 : Int32))) (F_TransactionHeuristicCommit_ordinal : Fld Z Z.heap a_TransactionHeuristicCommit "java/lang/Enum" "ordinal" "I" (.int (11 : Int32))) (F_TransactionHeuristicRollback_ordinal : Fld Z Z.heap a_TransactionHeuristicRollback "java/lang/Enum" "ordinal" "I" (.int (10 : Int32))) (F_TransactionRollbackOnly_ordinal : Fld Z Z.heap a_TransactionRollbackOnly "java/lang/Enum" "ordinal" "I" (.int (8 : Int32))) (F_TransactionPreparing_ordinal : Fld Z Z.heap a_TransactionPreparing "java/lang/Enum" "ordinal" "I" (.int (1 : Int32))) (F_TransactionHeuristicMixed_ordinal : Fld Z Z.heap a_TransactionHeuristicMixed "java/lang/Enum" "ordinal" "I" (.int (12 : Int32))) (F_TransactionReadOnly_ordinal : Fld Z Z.heap a_TransactionReadOnly "java/lang/Enum" "ordinal" "I" (.int (9 : Int32))) :
    MetFree l x (head1 (Jvm.Cond.code x code maxLocals ret :: ws) room_1) (fun a U => a = #[(.int p1)] ∧ Z.Warmed39 U.vm ∧ U.heap = h0) (fun _ _ _ _ _ => True) (fun _ U o U' => ∃ v L, o = .returned v ∧ own_law_Q Z n0 v U'.heap L ∧ FrameEnd U o U' L 16 128) := by
  refine MetFree.of_bodySF own_pn1 hisR ?_
  intro p e s m args below meth c s₁ Bd hml0 hP hK
  obtain ⟨rfl, hZ, hh⟩ := hP
  have hx := Bd.exec
  have hby := Bd.bytes
  have hml : c.maxLocals = 4 := hml0
  have hlk := BodyLoose.notSynchronized Bd
  have hown : s.vm.findClass "com/example/concordat/concordat/TxStatusIsCommittedPinLaw" = some m.cls := findClass_of_methodNamed Bd.named
  have hnm := (name_of_methodNamed Bd.named Bd.method).1
  have X0 : Stand p l e room_1 s m #[(.int p1)] below meth c s₁ [] 0 0 := Stand.of_body Bd
  have e0 : s₁.heap = h0 := by rw [← hh, Bd.state]; rfl
  have N0 := Fr.nil n0
  have ne_Active_Committed := Fld.ne F_TransactionActive_ordinal F_TransactionCommitted_ordinal (by decide)
  have ne_Active_CommittedOnePhase := Fld.ne F_TransactionActive_ordinal F_TransactionCommittedOnePhase_ordinal (by decide)
  have ne_Preparing_Committed := Fld.ne F_TransactionPreparing_ordinal F_TransactionCommitted_ordinal (by decide)
  have ne_Preparing_CommittedOnePhase := Fld.ne F_TransactionPreparing_ordinal F_TransactionCommittedOnePhase_ordinal (by decide)
  have ne_Prepared_Committed := Fld.ne F_TransactionPrepared_ordinal F_TransactionCommitted_ordinal (by decide)
  have ne_Prepared_CommittedOnePhase := Fld.ne F_TransactionPrepared_ordinal F_TransactionCommittedOnePhase_ordinal (by decide)
  have ne_Committing_Committed := Fld.ne F_TransactionCommitting_ordinal F_TransactionCommitted_ordinal (by decide)
  have ne_Committing_CommittedOnePhase := Fld.ne F_TransactionCommitting_ordinal F_TransactionCommittedOnePhase_ordinal (by decide)
  have ne_Committed_CommittedOnePhase := Fld.ne F_TransactionCommitted_ordinal F_TransactionCommittedOnePhase_ordinal (by decide)
  have ne_CommittedOnePhase_Committed := Fld.ne F_TransactionCommittedOnePhase_ordinal F_TransactionCommitted_ordinal (by decide)
  have ne_RollingBack_Committed := Fld.ne F_TransactionRollingBack_ordinal F_TransactionCommitted_ordinal (by decide)
  have ne_RollingBack_CommittedOnePhase := Fld.ne F_TransactionRollingBack_ordinal F_TransactionCommittedOnePhase_ordinal (by decide)
  have ne_RolledBack_Committed := Fld.ne F_TransactionRolledBack_ordinal F_TransactionCommitted_ordinal (by decide)
  have ne_RolledBack_CommittedOnePhase := Fld.ne F_TransactionRolledBack_ordinal F_TransactionCommittedOnePhase_ordinal (by decide)
  have ne_RollbackOnly_Committed := Fld.ne F_TransactionRollbackOnly_ordinal F_TransactionCommitted_ordinal (by decide)
  have ne_RollbackOnly_CommittedOnePhase := Fld.ne F_TransactionRollbackOnly_ordinal F_TransactionCommittedOnePhase_ordinal (by decide)
  have ne_ReadOnly_Committed := Fld.ne F_TransactionReadOnly_ordinal F_TransactionCommitted_ordinal (by decide)
  have ne_ReadOnly_CommittedOnePhase := Fld.ne F_TransactionReadOnly_ordinal F_TransactionCommittedOnePhase_ordinal (by decide)
  have ne_HeuristicRollback_Committed := Fld.ne F_TransactionHeuristicRollback_ordinal F_TransactionCommitted_ordinal (by decide)
  have ne_HeuristicRollback_CommittedOnePhase := Fld.ne F_TransactionHeuristicRollback_ordinal F_TransactionCommittedOnePhase_ordinal (by decide)
  have ne_HeuristicCommit_Committed := Fld.ne F_TransactionHeuristicCommit_ordinal F_TransactionCommitted_ordinal (by decide)
  have ne_HeuristicCommit_CommittedOnePhase := Fld.ne F_TransactionHeuristicCommit_ordinal F_TransactionCommittedOnePhase_ordinal (by decide)
  have ne_HeuristicMixed_Committed := Fld.ne F_TransactionHeuristicMixed_ordinal F_TransactionCommitted_ordinal (by decide)
  have ne_HeuristicMixed_CommittedOnePhase := Fld.ne F_TransactionHeuristicMixed_ordinal F_TransactionCommittedOnePhase_ordinal (by decide)
  have ne_HeuristicHazard_Committed := Fld.ne F_TransactionHeuristicHazard_ordinal F_TransactionCommitted_ordinal (by decide)
  have ne_HeuristicHazard_CommittedOnePhase := Fld.ne F_TransactionHeuristicHazard_ordinal F_TransactionCommittedOnePhase_ordinal (by decide)
  have ne_StatusUnknown_Committed := Fld.ne F_TransactionStatusUnknown_ordinal F_TransactionCommitted_ordinal (by decide)
  have ne_StatusUnknown_CommittedOnePhase := Fld.ne F_TransactionStatusUnknown_ordinal F_TransactionCommittedOnePhase_ordinal (by decide)
  show own_Go p e below s (own_law_Q Z n0) 16 128 (s₁.setTop (entryFrame m #[(.int p1)] maxLocals))
  rw [own_law_ef]
  show own_Go p e below s _ _ _ (s₁.setTop (mkF m 0 #[.val (.int p1), .unset, .unset, .unset] []))
  refine own_st (fun _ kQ => XS.iloadN X0.here hx rfl (hb hby at_0) rfl kQ) ?_
  show own_Go p e below s _ _ _ (s₁.setTop (mkF m 1 #[.val (.int p1), .unset, .unset, .unset] [(.int p1)]))
  refine own_st (fun _ kQ => X0.ldcI hx hown (mvT hZ (hw _ (List.mem_of_getElem? (i := 0) rfl))) rfl (hb hby at_1) kQ) ?_
  show own_Go p e below s _ _ _ (s₁.setTop (mkF m 3 #[.val (.int p1), .unset, .unset, .unset] [(.int (2147483647 : Int32)), (.int p1)]))
  refine own_st (fun _ kQ => XS.iand X0.here hx rfl (hb hby at_3) rfl kQ) ?_
  show own_Go p e below s _ _ _ (s₁.setTop (mkF m 4 #[.val (.int p1), .unset, .unset, .unset] [(.int (p1 &&& (2147483647 : Int32)))]))
  refine own_st (fun _ kQ => XT.bipushV X0.here hx rfl (15 : Int32) (hb hby at_4) (by decide) kQ) ?_
  show own_Go p e below s _ _ _ (s₁.setTop (mkF m 6 #[.val (.int p1), .unset, .unset, .unset] [(.int (15 : Int32)), (.int (p1 &&& (2147483647 : Int32)))]))
  refine own_st (fun _ kQ => iremM X0 hx rfl (hb hby at_6) rfl (by decide) kQ) ?_
  show own_Go p e below s _ _ _ (s₁.setTop (mkF m 7 #[.val (.int p1), .unset, .unset, .unset] [(.int ((p1 &&& (2147483647 : Int32)) % (15 : Int32)))]))
  refine own_st (fun _ kQ => XS.istoreN X0.here hx rfl (hb hby at_7) rfl (l' := #[.val (.int p1), .val (.int ((p1 &&& (2147483647 : Int32)) % (15 : Int32))), .unset, .unset]) rfl kQ) ?_
  show own_Go p e below s _ _ _ (s₁.setTop (mkF m 8 #[.val (.int p1), .val (.int ((p1 &&& (2147483647 : Int32)) % (15 : Int32))), .unset, .unset] []))
  refine own_st (fun _ kQ => XT.bipushV X0.here hx rfl (15 : Int32) (hb hby at_8) (by decide) kQ) ?_
  show own_Go p e below s _ _ _ (s₁.setTop (mkF m 10 #[.val (.int p1), .val (.int ((p1 &&& (2147483647 : Int32)) % (15 : Int32))), .unset, .unset] [(.int (15 : Int32))]))
  obtain ⟨T7, h7, k7, X7, e7, E7, A7, O7, st7⟩ := newR X0 hx hZ hown (hw _ (List.mem_of_getElem? (i := 1) rfl)) (hw _ (List.mem_of_getElem? (i := 2) rfl)) e0 (g := (mkF m 10 #[.val (.int p1), .val (.int ((p1 &&& (2147483647 : Int32)) % (15 : Int32))), .unset, .unset] [(.int (15 : Int32))])) rfl (hb hby at_10) rfl (by decide) (cap := 15) (by decide) (by decide) (by decide) (by decide)
  obtain ⟨b7, g7⟩ : ∃ z, z = h0.size := ⟨_, rfl⟩
  rw [← g7] at A7 st7
  refine own_st st7 ?_
  have Zs8 : n0 ≤ h7.size := Nat.le_trans Z0 E7.1
  have g9 : n0 ≤ b7 := Nat.le_trans Z0 (Nat.le_of_eq g7.symm)
  have F10 : Arv Z h7 b7 k7 (.object "com/example/concordat/concordat/TxStatus") (15 : Int32) [.null, .null, .null, .null, .null, .null, .null, .null, .null, .null, .null, .null, .null, .null, .null] .null := (Arv.new A7 (by decide)).pad (fun i => own_pad 15 _ i)
  show own_Go p e below s _ _ _ (T7.setTop (mkF m 13 #[.val (.int p1), .val (.int ((p1 &&& (2147483647 : Int32)) % (15 : Int32))), .unset, .unset] [(.ref b7)]))
  refine own_st (fun _ kQ => XS.dup X7.here hx rfl (hb hby at_13) rfl rfl kQ) ?_
  show own_Go p e below s _ _ _ (T7.setTop (mkF m 14 #[.val (.int p1), .val (.int ((p1 &&& (2147483647 : Int32)) % (15 : Int32))), .unset, .unset] [(.ref b7), (.ref b7)]))
  refine own_st (fun _ kQ => XT.iconstV X7.here hx rfl (0 : Int32) (hb hby at_14) (by decide) kQ) ?_
  show own_Go p e below s _ _ _ (T7.setTop (mkF m 15 #[.val (.int p1), .val (.int ((p1 &&& (2147483647 : Int32)) % (15 : Int32))), .unset, .unset] [(.int (0 : Int32)), (.ref b7), (.ref b7)]))
  have O11 : Old Z n0 h7 := (O0.ext E7)
  have F12 : Sta Z h7 "com/example/concordat/concordat/TxStatus" "TransactionActive" "Lcom/example/concordat/concordat/TxStatus;" (.ref a_TransactionActive) := S_a_TransactionActive.ext O11.2
  obtain ⟨T13, X13, e13, st13⟩ := getS2 X7 hx hZ hown (host := "") (Or.inl (hw _ (List.mem_of_getElem? (i := 3) rfl))) Via.refl e7 F12 (g := (mkF m 15 #[.val (.int p1), .val (.int ((p1 &&& (2147483647 : Int32)) % (15 : Int32))), .unset, .unset] [(.int (0 : Int32)), (.ref b7), (.ref b7)])) rfl (hb hby at_15)
  refine own_st st13 ?_
  show own_Go p e below s _ _ _ (T13.setTop (mkF m 18 #[.val (.int p1), .val (.int ((p1 &&& (2147483647 : Int32)) % (15 : Int32))), .unset, .unset] [(.ref a_TransactionActive), (.int (0 : Int32)), (.ref b7), (.ref b7)]))
  obtain ⟨cl14, Ar14, kc14, S14, Nn14, H14, G14⟩ := id F10
  have hin14 : ¬ ((0 : Int32) < 0 ∨ cl14.slots.size ≤ ((0 : Int32) : Int32).toNatClampNeg) := inb_of S14 (by decide)
  have F15 : Exa Z h7 a_TransactionActive "com/example/concordat/concordat/TxStatus" := Ex_a_TransactionActive.ext O11.2
  obtain ⟨T14, h14, X14, e14, W14, st14⟩ := stR X13 hx hZ e13 Ar14 (j := (0 : Int32)) hin14 rfl (Sto.ofV Ar14 kc14 O7 (Ins.self F15)) (g := (mkF m 18 #[.val (.int p1), .val (.int ((p1 &&& (2147483647 : Int32)) % (15 : Int32))), .unset, .unset] [(.ref a_TransactionActive), (.int (0 : Int32)), (.ref b7), (.ref b7)])) rfl rfl (hb hby at_18)
  refine own_st st14 ?_
  have N16 := Fr.snoc X14 N0 g9
  have F17 : Arv Z h14 b7 k7 (.object "com/example/concordat/concordat/TxStatus") (15 : Int32) [(.ref a_TransactionActive), .null, .null, .null, .null, .null, .null, .null, .null, .null, .null, .null, .null, .null, .null] .null := Arv.set Ar14 kc14 S14 Nn14 H14 G14 rfl W14 0 (by decide) (Nat.le_of_ble_eq_true rfl)
  have lt18 : b7 < h14.size := Nat.lt_of_lt_of_le A7.lt (Nat.le_of_eq W14.size.symm)
  have Zs19 : n0 ≤ h14.size := Nat.le_trans Zs8 (Nat.le_of_eq W14.size.symm)
  show own_Go p e below s _ _ _ (T14.setTop (mkF m 19 #[.val (.int p1), .val (.int ((p1 &&& (2147483647 : Int32)) % (15 : Int32))), .unset, .unset] [(.ref b7)]))
  refine own_st (fun _ kQ => XS.dup X14.here hx rfl (hb hby at_19) rfl rfl kQ) ?_
  show own_Go p e below s _ _ _ (T14.setTop (mkF m 20 #[.val (.int p1), .val (.int ((p1 &&& (2147483647 : Int32)) % (15 : Int32))), .unset, .unset] [(.ref b7), (.ref b7)]))
  refine own_st (fun _ kQ => XT.iconstV X14.here hx rfl (1 : Int32) (hb hby at_20) (by decide) kQ) ?_
  show own_Go p e below s _ _ _ (T14.setTop (mkF m 21 #[.val (.int p1), .val (.int ((p1 &&& (2147483647 : Int32)) % (15 : Int32))), .unset, .unset] [(.int (1 : Int32)), (.ref b7), (.ref b7)]))
  have O20 : Old Z n0 h14 := (O11.wr W14 g9)
  have F21 : Sta Z h14 "com/example/concordat/concordat/TxStatus" "TransactionPreparing" "Lcom/example/concordat/concordat/TxStatus;" (.ref a_TransactionPreparing) := S_a_TransactionPreparing.ext O20.2
  obtain ⟨T22, X22, e22, st22⟩ := getS2 X14 hx hZ hown (host := "") (Or.inl (hw _ (List.mem_of_getElem? (i := 7) rfl))) Via.refl e14 F21 (g := (mkF m 21 #[.val (.int p1), .val (.int ((p1 &&& (2147483647 : Int32)) % (15 : Int32))), .unset, .unset] [(.int (1 : Int32)), (.ref b7), (.ref b7)])) rfl (hb hby at_21)
  refine own_st st22 ?_
  show own_Go p e below s _ _ _ (T22.setTop (mkF m 24 #[.val (.int p1), .val (.int ((p1 &&& (2147483647 : Int32)) % (15 : Int32))), .unset, .unset] [(.ref a_TransactionPreparing), (.int (1 : Int32)), (.ref b7), (.ref b7)]))
  obtain ⟨cl23, Ar23, kc23, S23, Nn23, H23, G23⟩ := id F17
  have hin23 : ¬ ((1 : Int32) < 0 ∨ cl23.slots.size ≤ ((1 : Int32) : Int32).toNatClampNeg) := inb_of S23 (by decide)
  have F24 : Exa Z h14 a_TransactionPreparing "com/example/concordat/concordat/TxStatus" := Ex_a_TransactionPreparing.ext O20.2
  obtain ⟨T23, h23, X23, e23, W23, st23⟩ := stR X22 hx hZ e22 Ar23 (j := (1 : Int32)) hin23 rfl (Sto.ofV Ar23 kc23 O7 (Ins.self F24)) (g := (mkF m 24 #[.val (.int p1), .val (.int ((p1 &&& (2147483647 : Int32)) % (15 : Int32))), .unset, .unset] [(.ref a_TransactionPreparing), (.int (1 : Int32)), (.ref b7), (.ref b7)])) rfl rfl (hb hby at_24)
  refine own_st st23 ?_
  have N25 := Fr.snoc X23 N16 g9
  have F26 : Arv Z h23 b7 k7 (.object "com/example/concordat/concordat/TxStatus") (15 : Int32) [(.ref a_TransactionActive), (.ref a_TransactionPreparing), .null, .null, .null, .null, .null, .null, .null, .null, .null, .null, .null, .null, .null] .null := Arv.set Ar23 kc23 S23 Nn23 H23 G23 rfl W23 1 (by decide) (Nat.le_of_ble_eq_true rfl)
  have lt27 : b7 < h23.size := Nat.lt_of_lt_of_le lt18 (Nat.le_of_eq W23.size.symm)
  have Zs28 : n0 ≤ h23.size := Nat.le_trans Zs19 (Nat.le_of_eq W23.size.symm)
  show own_Go p e below s _ _ _ (T23.setTop (mkF m 25 #[.val (.int p1), .val (.int ((p1 &&& (2147483647 : Int32)) % (15 : Int32))), .unset, .unset] [(.ref b7)]))
  refine own_st (fun _ kQ => XS.dup X23.here hx rfl (hb hby at_25) rfl rfl kQ) ?_
  show own_Go p e below s _ _ _ (T23.setTop (mkF m 26 #[.val (.int p1), .val (.int ((p1 &&& (2147483647 : Int32)) % (15 : Int32))), .unset, .unset] [(.ref b7), (.ref b7)]))
  refine own_st (fun _ kQ => XT.iconstV X23.here hx rfl (2 : Int32) (hb hby at_26) (by decide) kQ) ?_
  show own_Go p e below s _ _ _ (T23.setTop (mkF m 27 #[.val (.int p1), .val (.int ((p1 &&& (2147483647 : Int32)) % (15 : Int32))), .unset, .unset] [(.int (2 : Int32)), (.ref b7), (.ref b7)]))
  have O29 : Old Z n0 h23 := (O20.wr W23 g9)
  have F30 : Sta Z h23 "com/example/concordat/concordat/TxStatus" "TransactionPrepared" "Lcom/example/concordat/concordat/TxStatus;" (.ref a_TransactionPrepared) := S_a_TransactionPrepared.ext O29.2
  obtain ⟨T31, X31, e31, st31⟩ := getS2 X23 hx hZ hown (host := "") (Or.inl (hw _ (List.mem_of_getElem? (i := 9) rfl))) Via.refl e23 F30 (g := (mkF m 27 #[.val (.int p1), .val (.int ((p1 &&& (2147483647 : Int32)) % (15 : Int32))), .unset, .unset] [(.int (2 : Int32)), (.ref b7), (.ref b7)])) rfl (hb hby at_27)
  refine own_st st31 ?_
  show own_Go p e below s _ _ _ (T31.setTop (mkF m 30 #[.val (.int p1), .val (.int ((p1 &&& (2147483647 : Int32)) % (15 : Int32))), .unset, .unset] [(.ref a_TransactionPrepared), (.int (2 : Int32)), (.ref b7), (.ref b7)]))
  obtain ⟨cl32, Ar32, kc32, S32, Nn32, H32, G32⟩ := id F26
  have hin32 : ¬ ((2 : Int32) < 0 ∨ cl32.slots.size ≤ ((2 : Int32) : Int32).toNatClampNeg) := inb_of S32 (by decide)
  have F33 : Exa Z h23 a_TransactionPrepared "com/example/concordat/concordat/TxStatus" := Ex_a_TransactionPrepared.ext O29.2
  obtain ⟨T32, h32, X32, e32, W32, st32⟩ := stR X31 hx hZ e31 Ar32 (j := (2 : Int32)) hin32 rfl (Sto.ofV Ar32 kc32 O7 (Ins.self F33)) (g := (mkF m 30 #[.val (.int p1), .val (.int ((p1 &&& (2147483647 : Int32)) % (15 : Int32))), .unset, .unset] [(.ref a_TransactionPrepared), (.int (2 : Int32)), (.ref b7), (.ref b7)])) rfl rfl (hb hby at_30)
  refine own_st st32 ?_
  have N34 := Fr.snoc X32 N25 g9
  have F35 : Arv Z h32 b7 k7 (.object "com/example/concordat/concordat/TxStatus") (15 : Int32) [(.ref a_TransactionActive), (.ref a_TransactionPreparing), (.ref a_TransactionPrepared), .null, .null, .null, .null, .null, .null, .null, .null, .null, .null, .null, .null] .null := Arv.set Ar32 kc32 S32 Nn32 H32 G32 rfl W32 2 (by decide) (Nat.le_of_ble_eq_true rfl)
  have lt36 : b7 < h32.size := Nat.lt_of_lt_of_le lt27 (Nat.le_of_eq W32.size.symm)
  have Zs37 : n0 ≤ h32.size := Nat.le_trans Zs28 (Nat.le_of_eq W32.size.symm)
  show own_Go p e below s _ _ _ (T32.setTop (mkF m 31 #[.val (.int p1), .val (.int ((p1 &&& (2147483647 : Int32)) % (15 : Int32))), .unset, .unset] [(.ref b7)]))
  refine own_st (fun _ kQ => XS.dup X32.here hx rfl (hb hby at_31) rfl rfl kQ) ?_
  show own_Go p e below s _ _ _ (T32.setTop (mkF m 32 #[.val (.int p1), .val (.int ((p1 &&& (2147483647 : Int32)) % (15 : Int32))), .unset, .unset] [(.ref b7), (.ref b7)]))
  refine own_st (fun _ kQ => XT.iconstV X32.here hx rfl (3 : Int32) (hb hby at_32) (by decide) kQ) ?_
  show own_Go p e below s _ _ _ (T32.setTop (mkF m 33 #[.val (.int p1), .val (.int ((p1 &&& (2147483647 : Int32)) % (15 : Int32))), .unset, .unset] [(.int (3 : Int32)), (.ref b7), (.ref b7)]))
  have O38 : Old Z n0 h32 := (O29.wr W32 g9)
  have F39 : Sta Z h32 "com/example/concordat/concordat/TxStatus" "TransactionCommitting" "Lcom/example/concordat/concordat/TxStatus;" (.ref a_TransactionCommitting) := S_a_TransactionCommitting.ext O38.2
  obtain ⟨T40, X40, e40, st40⟩ := getS2 X32 hx hZ hown (host := "") (Or.inl (hw _ (List.mem_of_getElem? (i := 11) rfl))) Via.refl e32 F39 (g := (mkF m 33 #[.val (.int p1), .val (.int ((p1 &&& (2147483647 : Int32)) % (15 : Int32))), .unset, .unset] [(.int (3 : Int32)), (.ref b7), (.ref b7)])) rfl (hb hby at_33)
  refine own_st st40 ?_
  show own_Go p e below s _ _ _ (T40.setTop (mkF m 36 #[.val (.int p1), .val (.int ((p1 &&& (2147483647 : Int32)) % (15 : Int32))), .unset, .unset] [(.ref a_TransactionCommitting), (.int (3 : Int32)), (.ref b7), (.ref b7)]))
  obtain ⟨cl41, Ar41, kc41, S41, Nn41, H41, G41⟩ := id F35
  have hin41 : ¬ ((3 : Int32) < 0 ∨ cl41.slots.size ≤ ((3 : Int32) : Int32).toNatClampNeg) := inb_of S41 (by decide)
  have F42 : Exa Z h32 a_TransactionCommitting "com/example/concordat/concordat/TxStatus" := Ex_a_TransactionCommitting.ext O38.2
  obtain ⟨T41, h41, X41, e41, W41, st41⟩ := stR X40 hx hZ e40 Ar41 (j := (3 : Int32)) hin41 rfl (Sto.ofV Ar41 kc41 O7 (Ins.self F42)) (g := (mkF m 36 #[.val (.int p1), .val (.int ((p1 &&& (2147483647 : Int32)) % (15 : Int32))), .unset, .unset] [(.ref a_TransactionCommitting), (.int (3 : Int32)), (.ref b7), (.ref b7)])) rfl rfl (hb hby at_36)
  refine own_st st41 ?_
  have N43 := Fr.snoc X41 N34 g9
  have F44 : Arv Z h41 b7 k7 (.object "com/example/concordat/concordat/TxStatus") (15 : Int32) [(.ref a_TransactionActive), (.ref a_TransactionPreparing), (.ref a_TransactionPrepared), (.ref a_TransactionCommitting), .null, .null, .null, .null, .null, .null, .null, .null, .null, .null, .null] .null := Arv.set Ar41 kc41 S41 Nn41 H41 G41 rfl W41 3 (by decide) (Nat.le_of_ble_eq_true rfl)
  have lt45 : b7 < h41.size := Nat.lt_of_lt_of_le lt36 (Nat.le_of_eq W41.size.symm)
  have Zs46 : n0 ≤ h41.size := Nat.le_trans Zs37 (Nat.le_of_eq W41.size.symm)
  obtain ⟨Lp47, Xp47, Np47⟩ : ∃ L, Stand p l e room_1 s m #[(.int p1)] below meth c T41 L 1 15 ∧ Fr n0 L := ⟨_, X41, N43⟩
  show own_Go p e below s _ _ _ (T41.setTop (mkF m 37 #[.val (.int p1), .val (.int ((p1 &&& (2147483647 : Int32)) % (15 : Int32))), .unset, .unset] [(.ref b7)]))
  refine own_st (fun _ kQ => XS.dup Xp47.here hx rfl (hb hby at_37) rfl rfl kQ) ?_
  show own_Go p e below s _ _ _ (T41.setTop (mkF m 38 #[.val (.int p1), .val (.int ((p1 &&& (2147483647 : Int32)) % (15 : Int32))), .unset, .unset] [(.ref b7), (.ref b7)]))
  refine own_st (fun _ kQ => XT.iconstV Xp47.here hx rfl (4 : Int32) (hb hby at_38) (by decide) kQ) ?_
  show own_Go p e below s _ _ _ (T41.setTop (mkF m 39 #[.val (.int p1), .val (.int ((p1 &&& (2147483647 : Int32)) % (15 : Int32))), .unset, .unset] [(.int (4 : Int32)), (.ref b7), (.ref b7)]))
  have O48 : Old Z n0 h41 := (O38.wr W41 g9)
  have F49 : Sta Z h41 "com/example/concordat/concordat/TxStatus" "TransactionCommitted" "Lcom/example/concordat/concordat/TxStatus;" (.ref a_TransactionCommitted) := S_a_TransactionCommitted.ext O48.2
  obtain ⟨T50, X50, e50, st50⟩ := getS2 Xp47 hx hZ hown (host := "") (Or.inl (hw _ (List.mem_of_getElem? (i := 13) rfl))) Via.refl e41 F49 (g := (mkF m 39 #[.val (.int p1), .val (.int ((p1 &&& (2147483647 : Int32)) % (15 : Int32))), .unset, .unset] [(.int (4 : Int32)), (.ref b7), (.ref b7)])) rfl (hb hby at_39)
  refine own_st st50 ?_
  show own_Go p e below s _ _ _ (T50.setTop (mkF m 42 #[.val (.int p1), .val (.int ((p1 &&& (2147483647 : Int32)) % (15 : Int32))), .unset, .unset] [(.ref a_TransactionCommitted), (.int (4 : Int32)), (.ref b7), (.ref b7)]))
  obtain ⟨cl51, Ar51, kc51, S51, Nn51, H51, G51⟩ := id F44
  have hin51 : ¬ ((4 : Int32) < 0 ∨ cl51.slots.size ≤ ((4 : Int32) : Int32).toNatClampNeg) := inb_of S51 (by decide)
  have F52 : Exa Z h41 a_TransactionCommitted "com/example/concordat/concordat/TxStatus" := Ex_a_TransactionCommitted.ext O48.2
  obtain ⟨T51, h51, X51, e51, W51, st51⟩ := stR X50 hx hZ e50 Ar51 (j := (4 : Int32)) hin51 rfl (Sto.ofV Ar51 kc51 O7 (Ins.self F52)) (g := (mkF m 42 #[.val (.int p1), .val (.int ((p1 &&& (2147483647 : Int32)) % (15 : Int32))), .unset, .unset] [(.ref a_TransactionCommitted), (.int (4 : Int32)), (.ref b7), (.ref b7)])) rfl rfl (hb hby at_42)
  refine own_st st51 ?_
  have N53 := Fr.snoc X51 Np47 g9
  have F54 : Arv Z h51 b7 k7 (.object "com/example/concordat/concordat/TxStatus") (15 : Int32) [(.ref a_TransactionActive), (.ref a_TransactionPreparing), (.ref a_TransactionPrepared), (.ref a_TransactionCommitting), (.ref a_TransactionCommitted), .null, .null, .null, .null, .null, .null, .null, .null, .null, .null] .null := Arv.set Ar51 kc51 S51 Nn51 H51 G51 rfl W51 4 (by decide) (Nat.le_of_ble_eq_true rfl)
  have lt55 : b7 < h51.size := Nat.lt_of_lt_of_le lt45 (Nat.le_of_eq W51.size.symm)
  have Zs56 : n0 ≤ h51.size := Nat.le_trans Zs46 (Nat.le_of_eq W51.size.symm)
  show own_Go p e below s _ _ _ (T51.setTop (mkF m 43 #[.val (.int p1), .val (.int ((p1 &&& (2147483647 : Int32)) % (15 : Int32))), .unset, .unset] [(.ref b7)]))
  refine own_st (fun _ kQ => XS.dup X51.here hx rfl (hb hby at_43) rfl rfl kQ) ?_
  show own_Go p e below s _ _ _ (T51.setTop (mkF m 44 #[.val (.int p1), .val (.int ((p1 &&& (2147483647 : Int32)) % (15 : Int32))), .unset, .unset] [(.ref b7), (.ref b7)]))
  refine own_st (fun _ kQ => XT.iconstV X51.here hx rfl (5 : Int32) (hb hby at_44) (by decide) kQ) ?_
  show own_Go p e below s _ _ _ (T51.setTop (mkF m 45 #[.val (.int p1), .val (.int ((p1 &&& (2147483647 : Int32)) % (15 : Int32))), .unset, .unset] [(.int (5 : Int32)), (.ref b7), (.ref b7)]))
  have O57 : Old Z n0 h51 := (O48.wr W51 g9)
  have F58 : Sta Z h51 "com/example/concordat/concordat/TxStatus" "TransactionCommittedOnePhase" "Lcom/example/concordat/concordat/TxStatus;" (.ref a_TransactionCommittedOnePhase) := S_a_TransactionCommittedOnePhase.ext O57.2
  obtain ⟨T59, X59, e59, st59⟩ := getS2 X51 hx hZ hown (host := "") (Or.inl (hw _ (List.mem_of_getElem? (i := 15) rfl))) Via.refl e51 F58 (g := (mkF m 45 #[.val (.int p1), .val (.int ((p1 &&& (2147483647 : Int32)) % (15 : Int32))), .unset, .unset] [(.int (5 : Int32)), (.ref b7), (.ref b7)])) rfl (hb hby at_45)
  refine own_st st59 ?_
  show own_Go p e below s _ _ _ (T59.setTop (mkF m 48 #[.val (.int p1), .val (.int ((p1 &&& (2147483647 : Int32)) % (15 : Int32))), .unset, .unset] [(.ref a_TransactionCommittedOnePhase), (.int (5 : Int32)), (.ref b7), (.ref b7)]))
  obtain ⟨cl60, Ar60, kc60, S60, Nn60, H60, G60⟩ := id F54
  have hin60 : ¬ ((5 : Int32) < 0 ∨ cl60.slots.size ≤ ((5 : Int32) : Int32).toNatClampNeg) := inb_of S60 (by decide)
  have F61 : Exa Z h51 a_TransactionCommittedOnePhase "com/example/concordat/concordat/TxStatus" := Ex_a_TransactionCommittedOnePhase.ext O57.2
  obtain ⟨T60, h60, X60, e60, W60, st60⟩ := stR X59 hx hZ e59 Ar60 (j := (5 : Int32)) hin60 rfl (Sto.ofV Ar60 kc60 O7 (Ins.self F61)) (g := (mkF m 48 #[.val (.int p1), .val (.int ((p1 &&& (2147483647 : Int32)) % (15 : Int32))), .unset, .unset] [(.ref a_TransactionCommittedOnePhase), (.int (5 : Int32)), (.ref b7), (.ref b7)])) rfl rfl (hb hby at_48)
  refine own_st st60 ?_
  have N62 := Fr.snoc X60 N53 g9
  have F63 : Arv Z h60 b7 k7 (.object "com/example/concordat/concordat/TxStatus") (15 : Int32) [(.ref a_TransactionActive), (.ref a_TransactionPreparing), (.ref a_TransactionPrepared), (.ref a_TransactionCommitting), (.ref a_TransactionCommitted), (.ref a_TransactionCommittedOnePhase), .null, .null, .null, .null, .null, .null, .null, .null, .null] .null := Arv.set Ar60 kc60 S60 Nn60 H60 G60 rfl W60 5 (by decide) (Nat.le_of_ble_eq_true rfl)
  have lt64 : b7 < h60.size := Nat.lt_of_lt_of_le lt55 (Nat.le_of_eq W60.size.symm)
  have Zs65 : n0 ≤ h60.size := Nat.le_trans Zs56 (Nat.le_of_eq W60.size.symm)
  show own_Go p e below s _ _ _ (T60.setTop (mkF m 49 #[.val (.int p1), .val (.int ((p1 &&& (2147483647 : Int32)) % (15 : Int32))), .unset, .unset] [(.ref b7)]))
  refine own_st (fun _ kQ => XS.dup X60.here hx rfl (hb hby at_49) rfl rfl kQ) ?_
  show own_Go p e below s _ _ _ (T60.setTop (mkF m 50 #[.val (.int p1), .val (.int ((p1 &&& (2147483647 : Int32)) % (15 : Int32))), .unset, .unset] [(.ref b7), (.ref b7)]))
  refine own_st (fun _ kQ => XT.bipushV X60.here hx rfl (6 : Int32) (hb hby at_50) (by decide) kQ) ?_
  show own_Go p e below s _ _ _ (T60.setTop (mkF m 52 #[.val (.int p1), .val (.int ((p1 &&& (2147483647 : Int32)) % (15 : Int32))), .unset, .unset] [(.int (6 : Int32)), (.ref b7), (.ref b7)]))
  have O66 : Old Z n0 h60 := (O57.wr W60 g9)
  have F67 : Sta Z h60 "com/example/concordat/concordat/TxStatus" "TransactionRollingBack" "Lcom/example/concordat/concordat/TxStatus;" (.ref a_TransactionRollingBack) := S_a_TransactionRollingBack.ext O66.2
  obtain ⟨T68, X68, e68, st68⟩ := getS2 X60 hx hZ hown (host := "") (Or.inl (hw _ (List.mem_of_getElem? (i := 17) rfl))) Via.refl e60 F67 (g := (mkF m 52 #[.val (.int p1), .val (.int ((p1 &&& (2147483647 : Int32)) % (15 : Int32))), .unset, .unset] [(.int (6 : Int32)), (.ref b7), (.ref b7)])) rfl (hb hby at_52)
  refine own_st st68 ?_
  show own_Go p e below s _ _ _ (T68.setTop (mkF m 55 #[.val (.int p1), .val (.int ((p1 &&& (2147483647 : Int32)) % (15 : Int32))), .unset, .unset] [(.ref a_TransactionRollingBack), (.int (6 : Int32)), (.ref b7), (.ref b7)]))
  obtain ⟨cl69, Ar69, kc69, S69, Nn69, H69, G69⟩ := id F63
  have hin69 : ¬ ((6 : Int32) < 0 ∨ cl69.slots.size ≤ ((6 : Int32) : Int32).toNatClampNeg) := inb_of S69 (by decide)
  have F70 : Exa Z h60 a_TransactionRollingBack "com/example/concordat/concordat/TxStatus" := Ex_a_TransactionRollingBack.ext O66.2
  obtain ⟨T69, h69, X69, e69, W69, st69⟩ := stR X68 hx hZ e68 Ar69 (j := (6 : Int32)) hin69 rfl (Sto.ofV Ar69 kc69 O7 (Ins.self F70)) (g := (mkF m 55 #[.val (.int p1), .val (.int ((p1 &&& (2147483647 : Int32)) % (15 : Int32))), .unset, .unset] [(.ref a_TransactionRollingBack), (.int (6 : Int32)), (.ref b7), (.ref b7)])) rfl rfl (hb hby at_55)
  refine own_st st69 ?_
  have N71 := Fr.snoc X69 N62 g9
  have F72 : Arv Z h69 b7 k7 (.object "com/example/concordat/concordat/TxStatus") (15 : Int32) [(.ref a_TransactionActive), (.ref a_TransactionPreparing), (.ref a_TransactionPrepared), (.ref a_TransactionCommitting), (.ref a_TransactionCommitted), (.ref a_TransactionCommittedOnePhase), (.ref a_TransactionRollingBack), .null, .null, .null, .null, .null, .null, .null, .null] .null := Arv.set Ar69 kc69 S69 Nn69 H69 G69 rfl W69 6 (by decide) (Nat.le_of_ble_eq_true rfl)
  have lt73 : b7 < h69.size := Nat.lt_of_lt_of_le lt64 (Nat.le_of_eq W69.size.symm)
  have Zs74 : n0 ≤ h69.size := Nat.le_trans Zs65 (Nat.le_of_eq W69.size.symm)
  show own_Go p e below s _ _ _ (T69.setTop (mkF m 56 #[.val (.int p1), .val (.int ((p1 &&& (2147483647 : Int32)) % (15 : Int32))), .unset, .unset] [(.ref b7)]))
  refine own_st (fun _ kQ => XS.dup X69.here hx rfl (hb hby at_56) rfl rfl kQ) ?_
  show own_Go p e below s _ _ _ (T69.setTop (mkF m 57 #[.val (.int p1), .val (.int ((p1 &&& (2147483647 : Int32)) % (15 : Int32))), .unset, .unset] [(.ref b7), (.ref b7)]))
  refine own_st (fun _ kQ => XT.bipushV X69.here hx rfl (7 : Int32) (hb hby at_57) (by decide) kQ) ?_
  show own_Go p e below s _ _ _ (T69.setTop (mkF m 59 #[.val (.int p1), .val (.int ((p1 &&& (2147483647 : Int32)) % (15 : Int32))), .unset, .unset] [(.int (7 : Int32)), (.ref b7), (.ref b7)]))
  have O75 : Old Z n0 h69 := (O66.wr W69 g9)
  have F76 : Sta Z h69 "com/example/concordat/concordat/TxStatus" "TransactionRolledBack" "Lcom/example/concordat/concordat/TxStatus;" (.ref a_TransactionRolledBack) := S_a_TransactionRolledBack.ext O75.2
  obtain ⟨T77, X77, e77, st77⟩ := getS2 X69 hx hZ hown (host := "") (Or.inl (hw _ (List.mem_of_getElem? (i := 19) rfl))) Via.refl e69 F76 (g := (mkF m 59 #[.val (.int p1), .val (.int ((p1 &&& (2147483647 : Int32)) % (15 : Int32))), .unset, .unset] [(.int (7 : Int32)), (.ref b7), (.ref b7)])) rfl (hb hby at_59)
  refine own_st st77 ?_
  show own_Go p e below s _ _ _ (T77.setTop (mkF m 62 #[.val (.int p1), .val (.int ((p1 &&& (2147483647 : Int32)) % (15 : Int32))), .unset, .unset] [(.ref a_TransactionRolledBack), (.int (7 : Int32)), (.ref b7), (.ref b7)]))
  obtain ⟨cl78, Ar78, kc78, S78, Nn78, H78, G78⟩ := id F72
  have hin78 : ¬ ((7 : Int32) < 0 ∨ cl78.slots.size ≤ ((7 : Int32) : Int32).toNatClampNeg) := inb_of S78 (by decide)
  have F79 : Exa Z h69 a_TransactionRolledBack "com/example/concordat/concordat/TxStatus" := Ex_a_TransactionRolledBack.ext O75.2
  obtain ⟨T78, h78, X78, e78, W78, st78⟩ := stR X77 hx hZ e77 Ar78 (j := (7 : Int32)) hin78 rfl (Sto.ofV Ar78 kc78 O7 (Ins.self F79)) (g := (mkF m 62 #[.val (.int p1), .val (.int ((p1 &&& (2147483647 : Int32)) % (15 : Int32))), .unset, .unset] [(.ref a_TransactionRolledBack), (.int (7 : Int32)), (.ref b7), (.ref b7)])) rfl rfl (hb hby at_62)
  refine own_st st78 ?_
  have N80 := Fr.snoc X78 N71 g9
  have F81 : Arv Z h78 b7 k7 (.object "com/example/concordat/concordat/TxStatus") (15 : Int32) [(.ref a_TransactionActive), (.ref a_TransactionPreparing), (.ref a_TransactionPrepared), (.ref a_TransactionCommitting), (.ref a_TransactionCommitted), (.ref a_TransactionCommittedOnePhase), (.ref a_TransactionRollingBack), (.ref a_TransactionRolledBack), .null, .null, .null, .null, .null, .null, .null] .null := Arv.set Ar78 kc78 S78 Nn78 H78 G78 rfl W78 7 (by decide) (Nat.le_of_ble_eq_true rfl)
  have lt82 : b7 < h78.size := Nat.lt_of_lt_of_le lt73 (Nat.le_of_eq W78.size.symm)
  have Zs83 : n0 ≤ h78.size := Nat.le_trans Zs74 (Nat.le_of_eq W78.size.symm)
  obtain ⟨Lp84, Xp84, Np84⟩ : ∃ L, Stand p l e room_1 s m #[(.int p1)] below meth c T78 L 1 15 ∧ Fr n0 L := ⟨_, X78, N80⟩
  show own_Go p e below s _ _ _ (T78.setTop (mkF m 63 #[.val (.int p1), .val (.int ((p1 &&& (2147483647 : Int32)) % (15 : Int32))), .unset, .unset] [(.ref b7)]))
  refine own_st (fun _ kQ => XS.dup Xp84.here hx rfl (hb hby at_63) rfl rfl kQ) ?_
  show own_Go p e below s _ _ _ (T78.setTop (mkF m 64 #[.val (.int p1), .val (.int ((p1 &&& (2147483647 : Int32)) % (15 : Int32))), .unset, .unset] [(.ref b7), (.ref b7)]))
  refine own_st (fun _ kQ => XT.bipushV Xp84.here hx rfl (8 : Int32) (hb hby at_64) (by decide) kQ) ?_
  show own_Go p e below s _ _ _ (T78.setTop (mkF m 66 #[.val (.int p1), .val (.int ((p1 &&& (2147483647 : Int32)) % (15 : Int32))), .unset, .unset] [(.int (8 : Int32)), (.ref b7), (.ref b7)]))
  have O85 : Old Z n0 h78 := (O75.wr W78 g9)
  have F86 : Sta Z h78 "com/example/concordat/concordat/TxStatus" "TransactionRollbackOnly" "Lcom/example/concordat/concordat/TxStatus;" (.ref a_TransactionRollbackOnly) := S_a_TransactionRollbackOnly.ext O85.2
  obtain ⟨T87, X87, e87, st87⟩ := getS2 Xp84 hx hZ hown (host := "") (Or.inl (hw _ (List.mem_of_getElem? (i := 21) rfl))) Via.refl e78 F86 (g := (mkF m 66 #[.val (.int p1), .val (.int ((p1 &&& (2147483647 : Int32)) % (15 : Int32))), .unset, .unset] [(.int (8 : Int32)), (.ref b7), (.ref b7)])) rfl (hb hby at_66)
  refine own_st st87 ?_
  show own_Go p e below s _ _ _ (T87.setTop (mkF m 69 #[.val (.int p1), .val (.int ((p1 &&& (2147483647 : Int32)) % (15 : Int32))), .unset, .unset] [(.ref a_TransactionRollbackOnly), (.int (8 : Int32)), (.ref b7), (.ref b7)]))
  obtain ⟨cl88, Ar88, kc88, S88, Nn88, H88, G88⟩ := id F81
  have hin88 : ¬ ((8 : Int32) < 0 ∨ cl88.slots.size ≤ ((8 : Int32) : Int32).toNatClampNeg) := inb_of S88 (by decide)
  have F89 : Exa Z h78 a_TransactionRollbackOnly "com/example/concordat/concordat/TxStatus" := Ex_a_TransactionRollbackOnly.ext O85.2
  obtain ⟨T88, h88, X88, e88, W88, st88⟩ := stR X87 hx hZ e87 Ar88 (j := (8 : Int32)) hin88 rfl (Sto.ofV Ar88 kc88 O7 (Ins.self F89)) (g := (mkF m 69 #[.val (.int p1), .val (.int ((p1 &&& (2147483647 : Int32)) % (15 : Int32))), .unset, .unset] [(.ref a_TransactionRollbackOnly), (.int (8 : Int32)), (.ref b7), (.ref b7)])) rfl rfl (hb hby at_69)
  refine own_st st88 ?_
  have N90 := Fr.snoc X88 Np84 g9
  have F91 : Arv Z h88 b7 k7 (.object "com/example/concordat/concordat/TxStatus") (15 : Int32) [(.ref a_TransactionActive), (.ref a_TransactionPreparing), (.ref a_TransactionPrepared), (.ref a_TransactionCommitting), (.ref a_TransactionCommitted), (.ref a_TransactionCommittedOnePhase), (.ref a_TransactionRollingBack), (.ref a_TransactionRolledBack), (.ref a_TransactionRollbackOnly), .null, .null, .null, .null, .null, .null] .null := Arv.set Ar88 kc88 S88 Nn88 H88 G88 rfl W88 8 (by decide) (Nat.le_of_ble_eq_true rfl)
  have lt92 : b7 < h88.size := Nat.lt_of_lt_of_le lt82 (Nat.le_of_eq W88.size.symm)
  have Zs93 : n0 ≤ h88.size := Nat.le_trans Zs83 (Nat.le_of_eq W88.size.symm)
  show own_Go p e below s _ _ _ (T88.setTop (mkF m 70 #[.val (.int p1), .val (.int ((p1 &&& (2147483647 : Int32)) % (15 : Int32))), .unset, .unset] [(.ref b7)]))
  refine own_st (fun _ kQ => XS.dup X88.here hx rfl (hb hby at_70) rfl rfl kQ) ?_
  show own_Go p e below s _ _ _ (T88.setTop (mkF m 71 #[.val (.int p1), .val (.int ((p1 &&& (2147483647 : Int32)) % (15 : Int32))), .unset, .unset] [(.ref b7), (.ref b7)]))
  refine own_st (fun _ kQ => XT.bipushV X88.here hx rfl (9 : Int32) (hb hby at_71) (by decide) kQ) ?_
  show own_Go p e below s _ _ _ (T88.setTop (mkF m 73 #[.val (.int p1), .val (.int ((p1 &&& (2147483647 : Int32)) % (15 : Int32))), .unset, .unset] [(.int (9 : Int32)), (.ref b7), (.ref b7)]))
  have O94 : Old Z n0 h88 := (O85.wr W88 g9)
  have F95 : Sta Z h88 "com/example/concordat/concordat/TxStatus" "TransactionReadOnly" "Lcom/example/concordat/concordat/TxStatus;" (.ref a_TransactionReadOnly) := S_a_TransactionReadOnly.ext O94.2
  obtain ⟨T96, X96, e96, st96⟩ := getS2 X88 hx hZ hown (host := "") (Or.inl (hw _ (List.mem_of_getElem? (i := 23) rfl))) Via.refl e88 F95 (g := (mkF m 73 #[.val (.int p1), .val (.int ((p1 &&& (2147483647 : Int32)) % (15 : Int32))), .unset, .unset] [(.int (9 : Int32)), (.ref b7), (.ref b7)])) rfl (hb hby at_73)
  refine own_st st96 ?_
  show own_Go p e below s _ _ _ (T96.setTop (mkF m 76 #[.val (.int p1), .val (.int ((p1 &&& (2147483647 : Int32)) % (15 : Int32))), .unset, .unset] [(.ref a_TransactionReadOnly), (.int (9 : Int32)), (.ref b7), (.ref b7)]))
  obtain ⟨cl97, Ar97, kc97, S97, Nn97, H97, G97⟩ := id F91
  have hin97 : ¬ ((9 : Int32) < 0 ∨ cl97.slots.size ≤ ((9 : Int32) : Int32).toNatClampNeg) := inb_of S97 (by decide)
  have F98 : Exa Z h88 a_TransactionReadOnly "com/example/concordat/concordat/TxStatus" := Ex_a_TransactionReadOnly.ext O94.2
  obtain ⟨T97, h97, X97, e97, W97, st97⟩ := stR X96 hx hZ e96 Ar97 (j := (9 : Int32)) hin97 rfl (Sto.ofV Ar97 kc97 O7 (Ins.self F98)) (g := (mkF m 76 #[.val (.int p1), .val (.int ((p1 &&& (2147483647 : Int32)) % (15 : Int32))), .unset, .unset] [(.ref a_TransactionReadOnly), (.int (9 : Int32)), (.ref b7), (.ref b7)])) rfl rfl (hb hby at_76)
  refine own_st st97 ?_
  have N99 := Fr.snoc X97 N90 g9
  have F100 : Arv Z h97 b7 k7 (.object "com/example/concordat/concordat/TxStatus") (15 : Int32) [(.ref a_TransactionActive), (.ref a_TransactionPreparing), (.ref a_TransactionPrepared), (.ref a_TransactionCommitting), (.ref a_TransactionCommitted), (.ref a_TransactionCommittedOnePhase), (.ref a_TransactionRollingBack), (.ref a_TransactionRolledBack), (.ref a_TransactionRollbackOnly), (.ref a_TransactionReadOnly), .null, .null, .null, .null, .null] .null := Arv.set Ar97 kc97 S97 Nn97 H97 G97 rfl W97 9 (by decide) (Nat.le_of_ble_eq_true rfl)
  have lt101 : b7 < h97.size := Nat.lt_of_lt_of_le lt92 (Nat.le_of_eq W97.size.symm)
  have Zs102 : n0 ≤ h97.size := Nat.le_trans Zs93 (Nat.le_of_eq W97.size.symm)
  show own_Go p e below s _ _ _ (T97.setTop (mkF m 77 #[.val (.int p1), .val (.int ((p1 &&& (2147483647 : Int32)) % (15 : Int32))), .unset, .unset] [(.ref b7)]))
  refine own_st (fun _ kQ => XS.dup X97.here hx rfl (hb hby at_77) rfl rfl kQ) ?_
  show own_Go p e below s _ _ _ (T97.setTop (mkF m 78 #[.val (.int p1), .val (.int ((p1 &&& (2147483647 : Int32)) % (15 : Int32))), .unset, .unset] [(.ref b7), (.ref b7)]))
  refine own_st (fun _ kQ => XT.bipushV X97.here hx rfl (10 : Int32) (hb hby at_78) (by decide) kQ) ?_
  show own_Go p e below s _ _ _ (T97.setTop (mkF m 80 #[.val (.int p1), .val (.int ((p1 &&& (2147483647 : Int32)) % (15 : Int32))), .unset, .unset] [(.int (10 : Int32)), (.ref b7), (.ref b7)]))
  have O103 : Old Z n0 h97 := (O94.wr W97 g9)
  have F104 : Sta Z h97 "com/example/concordat/concordat/TxStatus" "TransactionHeuristicRollback" "Lcom/example/concordat/concordat/TxStatus;" (.ref a_TransactionHeuristicRollback) := S_a_TransactionHeuristicRollback.ext O103.2
  obtain ⟨T105, X105, e105, st105⟩ := getS2 X97 hx hZ hown (host := "") (Or.inl (hw _ (List.mem_of_getElem? (i := 25) rfl))) Via.refl e97 F104 (g := (mkF m 80 #[.val (.int p1), .val (.int ((p1 &&& (2147483647 : Int32)) % (15 : Int32))), .unset, .unset] [(.int (10 : Int32)), (.ref b7), (.ref b7)])) rfl (hb hby at_80)
  refine own_st st105 ?_
  show own_Go p e below s _ _ _ (T105.setTop (mkF m 83 #[.val (.int p1), .val (.int ((p1 &&& (2147483647 : Int32)) % (15 : Int32))), .unset, .unset] [(.ref a_TransactionHeuristicRollback), (.int (10 : Int32)), (.ref b7), (.ref b7)]))
  obtain ⟨cl106, Ar106, kc106, S106, Nn106, H106, G106⟩ := id F100
  have hin106 : ¬ ((10 : Int32) < 0 ∨ cl106.slots.size ≤ ((10 : Int32) : Int32).toNatClampNeg) := inb_of S106 (by decide)
  have F107 : Exa Z h97 a_TransactionHeuristicRollback "com/example/concordat/concordat/TxStatus" := Ex_a_TransactionHeuristicRollback.ext O103.2
  obtain ⟨T106, h106, X106, e106, W106, st106⟩ := stR X105 hx hZ e105 Ar106 (j := (10 : Int32)) hin106 rfl (Sto.ofV Ar106 kc106 O7 (Ins.self F107)) (g := (mkF m 83 #[.val (.int p1), .val (.int ((p1 &&& (2147483647 : Int32)) % (15 : Int32))), .unset, .unset] [(.ref a_TransactionHeuristicRollback), (.int (10 : Int32)), (.ref b7), (.ref b7)])) rfl rfl (hb hby at_83)
  refine own_st st106 ?_
  have N108 := Fr.snoc X106 N99 g9
  have F109 : Arv Z h106 b7 k7 (.object "com/example/concordat/concordat/TxStatus") (15 : Int32) [(.ref a_TransactionActive), (.ref a_TransactionPreparing), (.ref a_TransactionPrepared), (.ref a_TransactionCommitting), (.ref a_TransactionCommitted), (.ref a_TransactionCommittedOnePhase), (.ref a_TransactionRollingBack), (.ref a_TransactionRolledBack), (.ref a_TransactionRollbackOnly), (.ref a_TransactionReadOnly), (.ref a_TransactionHeuristicRollback), .null, .null, .null, .null] .null := Arv.set Ar106 kc106 S106 Nn106 H106 G106 rfl W106 10 (by decide) (Nat.le_of_ble_eq_true rfl)
  have lt110 : b7 < h106.size := Nat.lt_of_lt_of_le lt101 (Nat.le_of_eq W106.size.symm)
  have Zs111 : n0 ≤ h106.size := Nat.le_trans Zs102 (Nat.le_of_eq W106.size.symm)
  show own_Go p e below s _ _ _ (T106.setTop (mkF m 84 #[.val (.int p1), .val (.int ((p1 &&& (2147483647 : Int32)) % (15 : Int32))), .unset, .unset] [(.ref b7)]))
  refine own_st (fun _ kQ => XS.dup X106.here hx rfl (hb hby at_84) rfl rfl kQ) ?_
  show own_Go p e below s _ _ _ (T106.setTop (mkF m 85 #[.val (.int p1), .val (.int ((p1 &&& (2147483647 : Int32)) % (15 : Int32))), .unset, .unset] [(.ref b7), (.ref b7)]))
  refine own_st (fun _ kQ => XT.bipushV X106.here hx rfl (11 : Int32) (hb hby at_85) (by decide) kQ) ?_
  show own_Go p e below s _ _ _ (T106.setTop (mkF m 87 #[.val (.int p1), .val (.int ((p1 &&& (2147483647 : Int32)) % (15 : Int32))), .unset, .unset] [(.int (11 : Int32)), (.ref b7), (.ref b7)]))
  have O112 : Old Z n0 h106 := (O103.wr W106 g9)
  have F113 : Sta Z h106 "com/example/concordat/concordat/TxStatus" "TransactionHeuristicCommit" "Lcom/example/concordat/concordat/TxStatus;" (.ref a_TransactionHeuristicCommit) := S_a_TransactionHeuristicCommit.ext O112.2
  obtain ⟨T114, X114, e114, st114⟩ := getS2 X106 hx hZ hown (host := "") (Or.inl (hw _ (List.mem_of_getElem? (i := 27) rfl))) Via.refl e106 F113 (g := (mkF m 87 #[.val (.int p1), .val (.int ((p1 &&& (2147483647 : Int32)) % (15 : Int32))), .unset, .unset] [(.int (11 : Int32)), (.ref b7), (.ref b7)])) rfl (hb hby at_87)
  refine own_st st114 ?_
  show own_Go p e below s _ _ _ (T114.setTop (mkF m 90 #[.val (.int p1), .val (.int ((p1 &&& (2147483647 : Int32)) % (15 : Int32))), .unset, .unset] [(.ref a_TransactionHeuristicCommit), (.int (11 : Int32)), (.ref b7), (.ref b7)]))
  obtain ⟨cl115, Ar115, kc115, S115, Nn115, H115, G115⟩ := id F109
  have hin115 : ¬ ((11 : Int32) < 0 ∨ cl115.slots.size ≤ ((11 : Int32) : Int32).toNatClampNeg) := inb_of S115 (by decide)
  have F116 : Exa Z h106 a_TransactionHeuristicCommit "com/example/concordat/concordat/TxStatus" := Ex_a_TransactionHeuristicCommit.ext O112.2
  obtain ⟨T115, h115, X115, e115, W115, st115⟩ := stR X114 hx hZ e114 Ar115 (j := (11 : Int32)) hin115 rfl (Sto.ofV Ar115 kc115 O7 (Ins.self F116)) (g := (mkF m 90 #[.val (.int p1), .val (.int ((p1 &&& (2147483647 : Int32)) % (15 : Int32))), .unset, .unset] [(.ref a_TransactionHeuristicCommit), (.int (11 : Int32)), (.ref b7), (.ref b7)])) rfl rfl (hb hby at_90)
  refine own_st st115 ?_
  have N117 := Fr.snoc X115 N108 g9
  have F118 : Arv Z h115 b7 k7 (.object "com/example/concordat/concordat/TxStatus") (15 : Int32) [(.ref a_TransactionActive), (.ref a_TransactionPreparing), (.ref a_TransactionPrepared), (.ref a_TransactionCommitting), (.ref a_TransactionCommitted), (.ref a_TransactionCommittedOnePhase), (.ref a_TransactionRollingBack), (.ref a_TransactionRolledBack), (.ref a_TransactionRollbackOnly), (.ref a_TransactionReadOnly), (.ref a_TransactionHeuristicRollback), (.ref a_TransactionHeuristicCommit), .null, .null, .null] .null := Arv.set Ar115 kc115 S115 Nn115 H115 G115 rfl W115 11 (by decide) (Nat.le_of_ble_eq_true rfl)
  have lt119 : b7 < h115.size := Nat.lt_of_lt_of_le lt110 (Nat.le_of_eq W115.size.symm)
  have Zs120 : n0 ≤ h115.size := Nat.le_trans Zs111 (Nat.le_of_eq W115.size.symm)
  obtain ⟨Lp121, Xp121, Np121⟩ : ∃ L, Stand p l e room_1 s m #[(.int p1)] below meth c T115 L 1 15 ∧ Fr n0 L := ⟨_, X115, N117⟩
  show own_Go p e below s _ _ _ (T115.setTop (mkF m 91 #[.val (.int p1), .val (.int ((p1 &&& (2147483647 : Int32)) % (15 : Int32))), .unset, .unset] [(.ref b7)]))
  refine own_st (fun _ kQ => XS.dup Xp121.here hx rfl (hb hby at_91) rfl rfl kQ) ?_
  show own_Go p e below s _ _ _ (T115.setTop (mkF m 92 #[.val (.int p1), .val (.int ((p1 &&& (2147483647 : Int32)) % (15 : Int32))), .unset, .unset] [(.ref b7), (.ref b7)]))
  refine own_st (fun _ kQ => XT.bipushV Xp121.here hx rfl (12 : Int32) (hb hby at_92) (by decide) kQ) ?_
  show own_Go p e below s _ _ _ (T115.setTop (mkF m 94 #[.val (.int p1), .val (.int ((p1 &&& (2147483647 : Int32)) % (15 : Int32))), .unset, .unset] [(.int (12 : Int32)), (.ref b7), (.ref b7)]))
  have O122 : Old Z n0 h115 := (O112.wr W115 g9)
  have F123 : Sta Z h115 "com/example/concordat/concordat/TxStatus" "TransactionHeuristicMixed" "Lcom/example/concordat/concordat/TxStatus;" (.ref a_TransactionHeuristicMixed) := S_a_TransactionHeuristicMixed.ext O122.2
  obtain ⟨T124, X124, e124, st124⟩ := getS2 Xp121 hx hZ hown (host := "") (Or.inl (hw _ (List.mem_of_getElem? (i := 29) rfl))) Via.refl e115 F123 (g := (mkF m 94 #[.val (.int p1), .val (.int ((p1 &&& (2147483647 : Int32)) % (15 : Int32))), .unset, .unset] [(.int (12 : Int32)), (.ref b7), (.ref b7)])) rfl (hb hby at_94)
  refine own_st st124 ?_
  show own_Go p e below s _ _ _ (T124.setTop (mkF m 97 #[.val (.int p1), .val (.int ((p1 &&& (2147483647 : Int32)) % (15 : Int32))), .unset, .unset] [(.ref a_TransactionHeuristicMixed), (.int (12 : Int32)), (.ref b7), (.ref b7)]))
  obtain ⟨cl125, Ar125, kc125, S125, Nn125, H125, G125⟩ := id F118
  have hin125 : ¬ ((12 : Int32) < 0 ∨ cl125.slots.size ≤ ((12 : Int32) : Int32).toNatClampNeg) := inb_of S125 (by decide)
  have F126 : Exa Z h115 a_TransactionHeuristicMixed "com/example/concordat/concordat/TxStatus" := Ex_a_TransactionHeuristicMixed.ext O122.2
  obtain ⟨T125, h125, X125, e125, W125, st125⟩ := stR X124 hx hZ e124 Ar125 (j := (12 : Int32)) hin125 rfl (Sto.ofV Ar125 kc125 O7 (Ins.self F126)) (g := (mkF m 97 #[.val (.int p1), .val (.int ((p1 &&& (2147483647 : Int32)) % (15 : Int32))), .unset, .unset] [(.ref a_TransactionHeuristicMixed), (.int (12 : Int32)), (.ref b7), (.ref b7)])) rfl rfl (hb hby at_97)
  refine own_st st125 ?_
  have N127 := Fr.snoc X125 Np121 g9
  have F128 : Arv Z h125 b7 k7 (.object "com/example/concordat/concordat/TxStatus") (15 : Int32) [(.ref a_TransactionActive), (.ref a_TransactionPreparing), (.ref a_TransactionPrepared), (.ref a_TransactionCommitting), (.ref a_TransactionCommitted), (.ref a_TransactionCommittedOnePhase), (.ref a_TransactionRollingBack), (.ref a_TransactionRolledBack), (.ref a_TransactionRollbackOnly), (.ref a_TransactionReadOnly), (.ref a_TransactionHeuristicRollback), (.ref a_TransactionHeuristicCommit), (.ref a_TransactionHeuristicMixed), .null, .null] .null := Arv.set Ar125 kc125 S125 Nn125 H125 G125 rfl W125 12 (by decide) (Nat.le_of_ble_eq_true rfl)
  have lt129 : b7 < h125.size := Nat.lt_of_lt_of_le lt119 (Nat.le_of_eq W125.size.symm)
  have Zs130 : n0 ≤ h125.size := Nat.le_trans Zs120 (Nat.le_of_eq W125.size.symm)
  show own_Go p e below s _ _ _ (T125.setTop (mkF m 98 #[.val (.int p1), .val (.int ((p1 &&& (2147483647 : Int32)) % (15 : Int32))), .unset, .unset] [(.ref b7)]))
  refine own_st (fun _ kQ => XS.dup X125.here hx rfl (hb hby at_98) rfl rfl kQ) ?_
  show own_Go p e below s _ _ _ (T125.setTop (mkF m 99 #[.val (.int p1), .val (.int ((p1 &&& (2147483647 : Int32)) % (15 : Int32))), .unset, .unset] [(.ref b7), (.ref b7)]))
  refine own_st (fun _ kQ => XT.bipushV X125.here hx rfl (13 : Int32) (hb hby at_99) (by decide) kQ) ?_
  show own_Go p e below s _ _ _ (T125.setTop (mkF m 101 #[.val (.int p1), .val (.int ((p1 &&& (2147483647 : Int32)) % (15 : Int32))), .unset, .unset] [(.int (13 : Int32)), (.ref b7), (.ref b7)]))
  have O131 : Old Z n0 h125 := (O122.wr W125 g9)
  have F132 : Sta Z h125 "com/example/concordat/concordat/TxStatus" "TransactionHeuristicHazard" "Lcom/example/concordat/concordat/TxStatus;" (.ref a_TransactionHeuristicHazard) := S_a_TransactionHeuristicHazard.ext O131.2
  obtain ⟨T133, X133, e133, st133⟩ := getS2 X125 hx hZ hown (host := "") (Or.inl (hw _ (List.mem_of_getElem? (i := 31) rfl))) Via.refl e125 F132 (g := (mkF m 101 #[.val (.int p1), .val (.int ((p1 &&& (2147483647 : Int32)) % (15 : Int32))), .unset, .unset] [(.int (13 : Int32)), (.ref b7), (.ref b7)])) rfl (hb hby at_101)
  refine own_st st133 ?_
  show own_Go p e below s _ _ _ (T133.setTop (mkF m 104 #[.val (.int p1), .val (.int ((p1 &&& (2147483647 : Int32)) % (15 : Int32))), .unset, .unset] [(.ref a_TransactionHeuristicHazard), (.int (13 : Int32)), (.ref b7), (.ref b7)]))
  obtain ⟨cl134, Ar134, kc134, S134, Nn134, H134, G134⟩ := id F128
  have hin134 : ¬ ((13 : Int32) < 0 ∨ cl134.slots.size ≤ ((13 : Int32) : Int32).toNatClampNeg) := inb_of S134 (by decide)
  have F135 : Exa Z h125 a_TransactionHeuristicHazard "com/example/concordat/concordat/TxStatus" := Ex_a_TransactionHeuristicHazard.ext O131.2
  obtain ⟨T134, h134, X134, e134, W134, st134⟩ := stR X133 hx hZ e133 Ar134 (j := (13 : Int32)) hin134 rfl (Sto.ofV Ar134 kc134 O7 (Ins.self F135)) (g := (mkF m 104 #[.val (.int p1), .val (.int ((p1 &&& (2147483647 : Int32)) % (15 : Int32))), .unset, .unset] [(.ref a_TransactionHeuristicHazard), (.int (13 : Int32)), (.ref b7), (.ref b7)])) rfl rfl (hb hby at_104)
  refine own_st st134 ?_
  have N136 := Fr.snoc X134 N127 g9
  have F137 : Arv Z h134 b7 k7 (.object "com/example/concordat/concordat/TxStatus") (15 : Int32) [(.ref a_TransactionActive), (.ref a_TransactionPreparing), (.ref a_TransactionPrepared), (.ref a_TransactionCommitting), (.ref a_TransactionCommitted), (.ref a_TransactionCommittedOnePhase), (.ref a_TransactionRollingBack), (.ref a_TransactionRolledBack), (.ref a_TransactionRollbackOnly), (.ref a_TransactionReadOnly), (.ref a_TransactionHeuristicRollback), (.ref a_TransactionHeuristicCommit), (.ref a_TransactionHeuristicMixed), (.ref a_TransactionHeuristicHazard), .null] .null := Arv.set Ar134 kc134 S134 Nn134 H134 G134 rfl W134 13 (by decide) (Nat.le_of_ble_eq_true rfl)
  have lt138 : b7 < h134.size := Nat.lt_of_lt_of_le lt129 (Nat.le_of_eq W134.size.symm)
  have Zs139 : n0 ≤ h134.size := Nat.le_trans Zs130 (Nat.le_of_eq W134.size.symm)
  show own_Go p e below s _ _ _ (T134.setTop (mkF m 105 #[.val (.int p1), .val (.int ((p1 &&& (2147483647 : Int32)) % (15 : Int32))), .unset, .unset] [(.ref b7)]))
  refine own_st (fun _ kQ => XS.dup X134.here hx rfl (hb hby at_105) rfl rfl kQ) ?_
  show own_Go p e below s _ _ _ (T134.setTop (mkF m 106 #[.val (.int p1), .val (.int ((p1 &&& (2147483647 : Int32)) % (15 : Int32))), .unset, .unset] [(.ref b7), (.ref b7)]))
  refine own_st (fun _ kQ => XT.bipushV X134.here hx rfl (14 : Int32) (hb hby at_106) (by decide) kQ) ?_
  show own_Go p e below s _ _ _ (T134.setTop (mkF m 108 #[.val (.int p1), .val (.int ((p1 &&& (2147483647 : Int32)) % (15 : Int32))), .unset, .unset] [(.int (14 : Int32)), (.ref b7), (.ref b7)]))
  have O140 : Old Z n0 h134 := (O131.wr W134 g9)
  have F141 : Sta Z h134 "com/example/concordat/concordat/TxStatus" "TransactionStatusUnknown" "Lcom/example/concordat/concordat/TxStatus;" (.ref a_TransactionStatusUnknown) := S_a_TransactionStatusUnknown.ext O140.2
  obtain ⟨T142, X142, e142, st142⟩ := getS2 X134 hx hZ hown (host := "") (Or.inl (hw _ (List.mem_of_getElem? (i := 33) rfl))) Via.refl e134 F141 (g := (mkF m 108 #[.val (.int p1), .val (.int ((p1 &&& (2147483647 : Int32)) % (15 : Int32))), .unset, .unset] [(.int (14 : Int32)), (.ref b7), (.ref b7)])) rfl (hb hby at_108)
  refine own_st st142 ?_
  show own_Go p e below s _ _ _ (T142.setTop (mkF m 111 #[.val (.int p1), .val (.int ((p1 &&& (2147483647 : Int32)) % (15 : Int32))), .unset, .unset] [(.ref a_TransactionStatusUnknown), (.int (14 : Int32)), (.ref b7), (.ref b7)]))
  obtain ⟨cl143, Ar143, kc143, S143, Nn143, H143, G143⟩ := id F137
  have hin143 : ¬ ((14 : Int32) < 0 ∨ cl143.slots.size ≤ ((14 : Int32) : Int32).toNatClampNeg) := inb_of S143 (by decide)
  have F144 : Exa Z h134 a_TransactionStatusUnknown "com/example/concordat/concordat/TxStatus" := Ex_a_TransactionStatusUnknown.ext O140.2
  obtain ⟨T143, h143, X143, e143, W143, st143⟩ := stR X142 hx hZ e142 Ar143 (j := (14 : Int32)) hin143 rfl (Sto.ofV Ar143 kc143 O7 (Ins.self F144)) (g := (mkF m 111 #[.val (.int p1), .val (.int ((p1 &&& (2147483647 : Int32)) % (15 : Int32))), .unset, .unset] [(.ref a_TransactionStatusUnknown), (.int (14 : Int32)), (.ref b7), (.ref b7)])) rfl rfl (hb hby at_111)
  refine own_st st143 ?_
  have N145 := Fr.snoc X143 N136 g9
  have F146 : Arv Z h143 b7 k7 (.object "com/example/concordat/concordat/TxStatus") (15 : Int32) [(.ref a_TransactionActive), (.ref a_TransactionPreparing), (.ref a_TransactionPrepared), (.ref a_TransactionCommitting), (.ref a_TransactionCommitted), (.ref a_TransactionCommittedOnePhase), (.ref a_TransactionRollingBack), (.ref a_TransactionRolledBack), (.ref a_TransactionRollbackOnly), (.ref a_TransactionReadOnly), (.ref a_TransactionHeuristicRollback), (.ref a_TransactionHeuristicCommit), (.ref a_TransactionHeuristicMixed), (.ref a_TransactionHeuristicHazard), (.ref a_TransactionStatusUnknown)] .null := Arv.set Ar143 kc143 S143 Nn143 H143 G143 rfl W143 14 (by decide) (Nat.le_of_ble_eq_true rfl)
  have lt147 : b7 < h143.size := Nat.lt_of_lt_of_le lt138 (Nat.le_of_eq W143.size.symm)
  have Zs148 : n0 ≤ h143.size := Nat.le_trans Zs139 (Nat.le_of_eq W143.size.symm)
  show own_Go p e below s _ _ _ (T143.setTop (mkF m 112 #[.val (.int p1), .val (.int ((p1 &&& (2147483647 : Int32)) % (15 : Int32))), .unset, .unset] [(.ref b7)]))
  refine own_st (fun _ kQ => XS.astoreN X143.here hx rfl (hb hby at_112) rfl rfl (l' := #[.val (.int p1), .val (.int ((p1 &&& (2147483647 : Int32)) % (15 : Int32))), .val (.ref b7), .unset]) rfl kQ) ?_
  show own_Go p e below s _ _ _ (T143.setTop (mkF m 113 #[.val (.int p1), .val (.int ((p1 &&& (2147483647 : Int32)) % (15 : Int32))), .val (.ref b7), .unset] []))
  refine own_st (fun _ kQ => XT.bipushV X143.here hx rfl (15 : Int32) (hb hby at_113) (by decide) kQ) ?_
  show own_Go p e below s _ _ _ (T143.setTop (mkF m 115 #[.val (.int p1), .val (.int ((p1 &&& (2147483647 : Int32)) % (15 : Int32))), .val (.ref b7), .unset] [(.int (15 : Int32))]))
  obtain ⟨T149, h149, k149, X149, e149, E149, A149, Ea149, st149⟩ := newPE X143 hx hZ (aty := .boolean) (hw _ (List.mem_of_getElem? (i := 35) rfl)) e143 (g := (mkF m 115 #[.val (.int p1), .val (.int ((p1 &&& (2147483647 : Int32)) % (15 : Int32))), .val (.ref b7), .unset] [(.int (15 : Int32))])) rfl (hb hby at_115) rfl (by decide) (cap := 15) (by decide) (by decide) (by decide) (by decide) (ad := "[Z") (by decide +kernel)
  obtain ⟨b149, g149⟩ : ∃ z, z = h143.size := ⟨_, rfl⟩
  rw [← g149] at A149 Ea149 st149
  refine own_st st149 ?_
  have lt150 : b7 < h149.size := Nat.lt_of_lt_of_le lt147 E149.1
  have Zs151 : n0 ≤ h149.size := Nat.le_trans Zs148 E149.1
  have ne152 : b7 ≠ b149 := Nat.ne_of_lt (Nat.lt_of_lt_of_le lt147 (Nat.le_of_eq g149.symm))
  have g153 : n0 ≤ b149 := Nat.le_trans Zs148 (Nat.le_of_eq g149.symm)
  have F154 : Arv Z h149 b149 k149 .boolean (15 : Int32) [(.int (0 : Int32)), (.int (0 : Int32)), (.int (0 : Int32)), (.int (0 : Int32)), (.int (0 : Int32)), (.int (0 : Int32)), (.int (0 : Int32)), (.int (0 : Int32)), (.int (0 : Int32)), (.int (0 : Int32)), (.int (0 : Int32)), (.int (0 : Int32)), (.int (0 : Int32)), (.int (0 : Int32)), (.int (0 : Int32))] (.int (0 : Int32)) := (Arv.new A149 (by decide)).pad (fun i => own_pad 15 _ i)
  show own_Go p e below s _ _ _ (T149.setTop (mkF m 117 #[.val (.int p1), .val (.int ((p1 &&& (2147483647 : Int32)) % (15 : Int32))), .val (.ref b7), .unset] [(.ref b149)]))
  refine own_st (fun _ kQ => XS.dup X149.here hx rfl (hb hby at_117) rfl rfl kQ) ?_
  show own_Go p e below s _ _ _ (T149.setTop (mkF m 118 #[.val (.int p1), .val (.int ((p1 &&& (2147483647 : Int32)) % (15 : Int32))), .val (.ref b7), .unset] [(.ref b149), (.ref b149)]))
  refine own_st (fun _ kQ => XT.iconstV X149.here hx rfl (0 : Int32) (hb hby at_118) (by decide) kQ) ?_
  show own_Go p e below s _ _ _ (T149.setTop (mkF m 119 #[.val (.int p1), .val (.int ((p1 &&& (2147483647 : Int32)) % (15 : Int32))), .val (.ref b7), .unset] [(.int (0 : Int32)), (.ref b149), (.ref b149)]))
  refine own_st (fun _ kQ => XT.iconstV X149.here hx rfl (0 : Int32) (hb hby at_119) (by decide) kQ) ?_
  show own_Go p e below s _ _ _ (T149.setTop (mkF m 120 #[.val (.int p1), .val (.int ((p1 &&& (2147483647 : Int32)) % (15 : Int32))), .val (.ref b7), .unset] [(.int (0 : Int32)), (.int (0 : Int32)), (.ref b149), (.ref b149)]))
  obtain ⟨cl155, Ar155, kc155, S155, Nn155, H155, G155⟩ := id F154
  have hin155 : ¬ ((0 : Int32) < 0 ∨ cl155.slots.size ≤ ((0 : Int32) : Int32).toNatClampNeg) := inb_of S155 (by decide)
  obtain ⟨T155, h155, X155, e155, W155, st155⟩ := stZ X149 hx hZ e149 Ar155 (j := (0 : Int32)) hin155 (g := (mkF m 120 #[.val (.int p1), .val (.int ((p1 &&& (2147483647 : Int32)) % (15 : Int32))), .val (.ref b7), .unset] [(.int (0 : Int32)), (.int (0 : Int32)), (.ref b149), (.ref b149)])) rfl rfl (hb hby at_120)
  refine own_st st155 ?_
  have N156 := Fr.snoc X155 N145 g153
  have F157 : Arv Z h155 b149 k149 .boolean (15 : Int32) [(.int (nar .boolean (0 : Int32))), (.int (0 : Int32)), (.int (0 : Int32)), (.int (0 : Int32)), (.int (0 : Int32)), (.int (0 : Int32)), (.int (0 : Int32)), (.int (0 : Int32)), (.int (0 : Int32)), (.int (0 : Int32)), (.int (0 : Int32)), (.int (0 : Int32)), (.int (0 : Int32)), (.int (0 : Int32)), (.int (0 : Int32))] (.int (0 : Int32)) := Arv.set Ar155 kc155 S155 Nn155 H155 G155 (fits_nar_bool _) W155 0 (by decide) (Nat.le_of_ble_eq_true rfl)
  have lt158 : b7 < h155.size := Nat.lt_of_lt_of_le lt150 (Nat.le_of_eq W155.size.symm)
  have lt159 : b149 < h155.size := Nat.lt_of_lt_of_le A149.lt (Nat.le_of_eq W155.size.symm)
  have Zs160 : n0 ≤ h155.size := Nat.le_trans Zs151 (Nat.le_of_eq W155.size.symm)
  obtain ⟨Lp161, Xp161, Np161⟩ : ∃ L, Stand p l e room_1 s m #[(.int p1)] below meth c T155 L 2 30 ∧ Fr n0 L := ⟨_, X155, N156⟩
  show own_Go p e below s _ _ _ (T155.setTop (mkF m 121 #[.val (.int p1), .val (.int ((p1 &&& (2147483647 : Int32)) % (15 : Int32))), .val (.ref b7), .unset] [(.ref b149)]))
  refine own_st (fun _ kQ => XS.dup Xp161.here hx rfl (hb hby at_121) rfl rfl kQ) ?_
  show own_Go p e below s _ _ _ (T155.setTop (mkF m 122 #[.val (.int p1), .val (.int ((p1 &&& (2147483647 : Int32)) % (15 : Int32))), .val (.ref b7), .unset] [(.ref b149), (.ref b149)]))
  refine own_st (fun _ kQ => XT.iconstV Xp161.here hx rfl (1 : Int32) (hb hby at_122) (by decide) kQ) ?_
  show own_Go p e below s _ _ _ (T155.setTop (mkF m 123 #[.val (.int p1), .val (.int ((p1 &&& (2147483647 : Int32)) % (15 : Int32))), .val (.ref b7), .unset] [(.int (1 : Int32)), (.ref b149), (.ref b149)]))
  refine own_st (fun _ kQ => XT.iconstV Xp161.here hx rfl (0 : Int32) (hb hby at_123) (by decide) kQ) ?_
  show own_Go p e below s _ _ _ (T155.setTop (mkF m 124 #[.val (.int p1), .val (.int ((p1 &&& (2147483647 : Int32)) % (15 : Int32))), .val (.ref b7), .unset] [(.int (0 : Int32)), (.int (1 : Int32)), (.ref b149), (.ref b149)]))
  obtain ⟨cl162, Ar162, kc162, S162, Nn162, H162, G162⟩ := id F157
  have hin162 : ¬ ((1 : Int32) < 0 ∨ cl162.slots.size ≤ ((1 : Int32) : Int32).toNatClampNeg) := inb_of S162 (by decide)
  obtain ⟨T162, h162, X162, e162, W162, st162⟩ := stZ Xp161 hx hZ e155 Ar162 (j := (1 : Int32)) hin162 (g := (mkF m 124 #[.val (.int p1), .val (.int ((p1 &&& (2147483647 : Int32)) % (15 : Int32))), .val (.ref b7), .unset] [(.int (0 : Int32)), (.int (1 : Int32)), (.ref b149), (.ref b149)])) rfl rfl (hb hby at_124)
  refine own_st st162 ?_
  have N163 := Fr.snoc X162 Np161 g153
  have F164 : Arv Z h162 b149 k149 .boolean (15 : Int32) [(.int (nar .boolean (0 : Int32))), (.int (nar .boolean (0 : Int32))), (.int (0 : Int32)), (.int (0 : Int32)), (.int (0 : Int32)), (.int (0 : Int32)), (.int (0 : Int32)), (.int (0 : Int32)), (.int (0 : Int32)), (.int (0 : Int32)), (.int (0 : Int32)), (.int (0 : Int32)), (.int (0 : Int32)), (.int (0 : Int32)), (.int (0 : Int32))] (.int (0 : Int32)) := Arv.set Ar162 kc162 S162 Nn162 H162 G162 (fits_nar_bool _) W162 1 (by decide) (Nat.le_of_ble_eq_true rfl)
  have lt165 : b7 < h162.size := Nat.lt_of_lt_of_le lt158 (Nat.le_of_eq W162.size.symm)
  have lt166 : b149 < h162.size := Nat.lt_of_lt_of_le lt159 (Nat.le_of_eq W162.size.symm)
  have Zs167 : n0 ≤ h162.size := Nat.le_trans Zs160 (Nat.le_of_eq W162.size.symm)
  show own_Go p e below s _ _ _ (T162.setTop (mkF m 125 #[.val (.int p1), .val (.int ((p1 &&& (2147483647 : Int32)) % (15 : Int32))), .val (.ref b7), .unset] [(.ref b149)]))
  refine own_st (fun _ kQ => XS.dup X162.here hx rfl (hb hby at_125) rfl rfl kQ) ?_
  show own_Go p e below s _ _ _ (T162.setTop (mkF m 126 #[.val (.int p1), .val (.int ((p1 &&& (2147483647 : Int32)) % (15 : Int32))), .val (.ref b7), .unset] [(.ref b149), (.ref b149)]))
  refine own_st (fun _ kQ => XT.iconstV X162.here hx rfl (2 : Int32) (hb hby at_126) (by decide) kQ) ?_
  show own_Go p e below s _ _ _ (T162.setTop (mkF m 127 #[.val (.int p1), .val (.int ((p1 &&& (2147483647 : Int32)) % (15 : Int32))), .val (.ref b7), .unset] [(.int (2 : Int32)), (.ref b149), (.ref b149)]))
  refine own_st (fun _ kQ => XT.iconstV X162.here hx rfl (0 : Int32) (hb hby at_127) (by decide) kQ) ?_
  show own_Go p e below s _ _ _ (T162.setTop (mkF m 128 #[.val (.int p1), .val (.int ((p1 &&& (2147483647 : Int32)) % (15 : Int32))), .val (.ref b7), .unset] [(.int (0 : Int32)), (.int (2 : Int32)), (.ref b149), (.ref b149)]))
  obtain ⟨cl168, Ar168, kc168, S168, Nn168, H168, G168⟩ := id F164
  have hin168 : ¬ ((2 : Int32) < 0 ∨ cl168.slots.size ≤ ((2 : Int32) : Int32).toNatClampNeg) := inb_of S168 (by decide)
  obtain ⟨T168, h168, X168, e168, W168, st168⟩ := stZ X162 hx hZ e162 Ar168 (j := (2 : Int32)) hin168 (g := (mkF m 128 #[.val (.int p1), .val (.int ((p1 &&& (2147483647 : Int32)) % (15 : Int32))), .val (.ref b7), .unset] [(.int (0 : Int32)), (.int (2 : Int32)), (.ref b149), (.ref b149)])) rfl rfl (hb hby at_128)
  refine own_st st168 ?_
  have N169 := Fr.snoc X168 N163 g153
  have F170 : Arv Z h168 b149 k149 .boolean (15 : Int32) [(.int (nar .boolean (0 : Int32))), (.int (nar .boolean (0 : Int32))), (.int (nar .boolean (0 : Int32))), (.int (0 : Int32)), (.int (0 : Int32)), (.int (0 : Int32)), (.int (0 : Int32)), (.int (0 : Int32)), (.int (0 : Int32)), (.int (0 : Int32)), (.int (0 : Int32)), (.int (0 : Int32)), (.int (0 : Int32)), (.int (0 : Int32)), (.int (0 : Int32))] (.int (0 : Int32)) := Arv.set Ar168 kc168 S168 Nn168 H168 G168 (fits_nar_bool _) W168 2 (by decide) (Nat.le_of_ble_eq_true rfl)
  have lt171 : b7 < h168.size := Nat.lt_of_lt_of_le lt165 (Nat.le_of_eq W168.size.symm)
  have lt172 : b149 < h168.size := Nat.lt_of_lt_of_le lt166 (Nat.le_of_eq W168.size.symm)
  have Zs173 : n0 ≤ h168.size := Nat.le_trans Zs167 (Nat.le_of_eq W168.size.symm)
  show own_Go p e below s _ _ _ (T168.setTop (mkF m 129 #[.val (.int p1), .val (.int ((p1 &&& (2147483647 : Int32)) % (15 : Int32))), .val (.ref b7), .unset] [(.ref b149)]))
  refine own_st (fun _ kQ => XS.dup X168.here hx rfl (hb hby at_129) rfl rfl kQ) ?_
  show own_Go p e below s _ _ _ (T168.setTop (mkF m 130 #[.val (.int p1), .val (.int ((p1 &&& (2147483647 : Int32)) % (15 : Int32))), .val (.ref b7), .unset] [(.ref b149), (.ref b149)]))
  refine own_st (fun _ kQ => XT.iconstV X168.here hx rfl (3 : Int32) (hb hby at_130) (by decide) kQ) ?_
  show own_Go p e below s _ _ _ (T168.setTop (mkF m 131 #[.val (.int p1), .val (.int ((p1 &&& (2147483647 : Int32)) % (15 : Int32))), .val (.ref b7), .unset] [(.int (3 : Int32)), (.ref b149), (.ref b149)]))
  refine own_st (fun _ kQ => XT.iconstV X168.here hx rfl (0 : Int32) (hb hby at_131) (by decide) kQ) ?_
  show own_Go p e below s _ _ _ (T168.setTop (mkF m 132 #[.val (.int p1), .val (.int ((p1 &&& (2147483647 : Int32)) % (15 : Int32))), .val (.ref b7), .unset] [(.int (0 : Int32)), (.int (3 : Int32)), (.ref b149), (.ref b149)]))
  obtain ⟨cl174, Ar174, kc174, S174, Nn174, H174, G174⟩ := id F170
  have hin174 : ¬ ((3 : Int32) < 0 ∨ cl174.slots.size ≤ ((3 : Int32) : Int32).toNatClampNeg) := inb_of S174 (by decide)
  obtain ⟨T174, h174, X174, e174, W174, st174⟩ := stZ X168 hx hZ e168 Ar174 (j := (3 : Int32)) hin174 (g := (mkF m 132 #[.val (.int p1), .val (.int ((p1 &&& (2147483647 : Int32)) % (15 : Int32))), .val (.ref b7), .unset] [(.int (0 : Int32)), (.int (3 : Int32)), (.ref b149), (.ref b149)])) rfl rfl (hb hby at_132)
  refine own_st st174 ?_
  have N175 := Fr.snoc X174 N169 g153
  have F176 : Arv Z h174 b149 k149 .boolean (15 : Int32) [(.int (nar .boolean (0 : Int32))), (.int (nar .boolean (0 : Int32))), (.int (nar .boolean (0 : Int32))), (.int (nar .boolean (0 : Int32))), (.int (0 : Int32)), (.int (0 : Int32)), (.int (0 : Int32)), (.int (0 : Int32)), (.int (0 : Int32)), (.int (0 : Int32)), (.int (0 : Int32)), (.int (0 : Int32)), (.int (0 : Int32)), (.int (0 : Int32)), (.int (0 : Int32))] (.int (0 : Int32)) := Arv.set Ar174 kc174 S174 Nn174 H174 G174 (fits_nar_bool _) W174 3 (by decide) (Nat.le_of_ble_eq_true rfl)
  have lt177 : b7 < h174.size := Nat.lt_of_lt_of_le lt171 (Nat.le_of_eq W174.size.symm)
  have lt178 : b149 < h174.size := Nat.lt_of_lt_of_le lt172 (Nat.le_of_eq W174.size.symm)
  have Zs179 : n0 ≤ h174.size := Nat.le_trans Zs173 (Nat.le_of_eq W174.size.symm)
  show own_Go p e below s _ _ _ (T174.setTop (mkF m 133 #[.val (.int p1), .val (.int ((p1 &&& (2147483647 : Int32)) % (15 : Int32))), .val (.ref b7), .unset] [(.ref b149)]))
  refine own_st (fun _ kQ => XS.dup X174.here hx rfl (hb hby at_133) rfl rfl kQ) ?_
  show own_Go p e below s _ _ _ (T174.setTop (mkF m 134 #[.val (.int p1), .val (.int ((p1 &&& (2147483647 : Int32)) % (15 : Int32))), .val (.ref b7), .unset] [(.ref b149), (.ref b149)]))
  refine own_st (fun _ kQ => XT.iconstV X174.here hx rfl (4 : Int32) (hb hby at_134) (by decide) kQ) ?_
  show own_Go p e below s _ _ _ (T174.setTop (mkF m 135 #[.val (.int p1), .val (.int ((p1 &&& (2147483647 : Int32)) % (15 : Int32))), .val (.ref b7), .unset] [(.int (4 : Int32)), (.ref b149), (.ref b149)]))
  refine own_st (fun _ kQ => XT.iconstV X174.here hx rfl (1 : Int32) (hb hby at_135) (by decide) kQ) ?_
  show own_Go p e below s _ _ _ (T174.setTop (mkF m 136 #[.val (.int p1), .val (.int ((p1 &&& (2147483647 : Int32)) % (15 : Int32))), .val (.ref b7), .unset] [(.int (1 : Int32)), (.int (4 : Int32)), (.ref b149), (.ref b149)]))
  obtain ⟨cl180, Ar180, kc180, S180, Nn180, H180, G180⟩ := id F176
  have hin180 : ¬ ((4 : Int32) < 0 ∨ cl180.slots.size ≤ ((4 : Int32) : Int32).toNatClampNeg) := inb_of S180 (by decide)
  obtain ⟨T180, h180, X180, e180, W180, st180⟩ := stZ X174 hx hZ e174 Ar180 (j := (4 : Int32)) hin180 (g := (mkF m 136 #[.val (.int p1), .val (.int ((p1 &&& (2147483647 : Int32)) % (15 : Int32))), .val (.ref b7), .unset] [(.int (1 : Int32)), (.int (4 : Int32)), (.ref b149), (.ref b149)])) rfl rfl (hb hby at_136)
  refine own_st st180 ?_
  have N181 := Fr.snoc X180 N175 g153
  have F182 : Arv Z h180 b149 k149 .boolean (15 : Int32) [(.int (nar .boolean (0 : Int32))), (.int (nar .boolean (0 : Int32))), (.int (nar .boolean (0 : Int32))), (.int (nar .boolean (0 : Int32))), (.int (nar .boolean (1 : Int32))), (.int (0 : Int32)), (.int (0 : Int32)), (.int (0 : Int32)), (.int (0 : Int32)), (.int (0 : Int32)), (.int (0 : Int32)), (.int (0 : Int32)), (.int (0 : Int32)), (.int (0 : Int32)), (.int (0 : Int32))] (.int (0 : Int32)) := Arv.set Ar180 kc180 S180 Nn180 H180 G180 (fits_nar_bool _) W180 4 (by decide) (Nat.le_of_ble_eq_true rfl)
  have lt183 : b7 < h180.size := Nat.lt_of_lt_of_le lt177 (Nat.le_of_eq W180.size.symm)
  have lt184 : b149 < h180.size := Nat.lt_of_lt_of_le lt178 (Nat.le_of_eq W180.size.symm)
  have Zs185 : n0 ≤ h180.size := Nat.le_trans Zs179 (Nat.le_of_eq W180.size.symm)
  obtain ⟨Lp186, Xp186, Np186⟩ : ∃ L, Stand p l e room_1 s m #[(.int p1)] below meth c T180 L 2 30 ∧ Fr n0 L := ⟨_, X180, N181⟩
  show own_Go p e below s _ _ _ (T180.setTop (mkF m 137 #[.val (.int p1), .val (.int ((p1 &&& (2147483647 : Int32)) % (15 : Int32))), .val (.ref b7), .unset] [(.ref b149)]))
  refine own_st (fun _ kQ => XS.dup Xp186.here hx rfl (hb hby at_137) rfl rfl kQ) ?_
  show own_Go p e below s _ _ _ (T180.setTop (mkF m 138 #[.val (.int p1), .val (.int ((p1 &&& (2147483647 : Int32)) % (15 : Int32))), .val (.ref b7), .unset] [(.ref b149), (.ref b149)]))
  refine own_st (fun _ kQ => XT.iconstV Xp186.here hx rfl (5 : Int32) (hb hby at_138) (by decide) kQ) ?_
  show own_Go p e below s _ _ _ (T180.setTop (mkF m 139 #[.val (.int p1), .val (.int ((p1 &&& (2147483647 : Int32)) % (15 : Int32))), .val (.ref b7), .unset] [(.int (5 : Int32)), (.ref b149), (.ref b149)]))
  refine own_st (fun _ kQ => XT.iconstV Xp186.here hx rfl (1 : Int32) (hb hby at_139) (by decide) kQ) ?_
  show own_Go p e below s _ _ _ (T180.setTop (mkF m 140 #[.val (.int p1), .val (.int ((p1 &&& (2147483647 : Int32)) % (15 : Int32))), .val (.ref b7), .unset] [(.int (1 : Int32)), (.int (5 : Int32)), (.ref b149), (.ref b149)]))
  obtain ⟨cl187, Ar187, kc187, S187, Nn187, H187, G187⟩ := id F182
  have hin187 : ¬ ((5 : Int32) < 0 ∨ cl187.slots.size ≤ ((5 : Int32) : Int32).toNatClampNeg) := inb_of S187 (by decide)
  obtain ⟨T187, h187, X187, e187, W187, st187⟩ := stZ Xp186 hx hZ e180 Ar187 (j := (5 : Int32)) hin187 (g := (mkF m 140 #[.val (.int p1), .val (.int ((p1 &&& (2147483647 : Int32)) % (15 : Int32))), .val (.ref b7), .unset] [(.int (1 : Int32)), (.int (5 : Int32)), (.ref b149), (.ref b149)])) rfl rfl (hb hby at_140)
  refine own_st st187 ?_
  have N188 := Fr.snoc X187 Np186 g153
  have F189 : Arv Z h187 b149 k149 .boolean (15 : Int32) [(.int (nar .boolean (0 : Int32))), (.int (nar .boolean (0 : Int32))), (.int (nar .boolean (0 : Int32))), (.int (nar .boolean (0 : Int32))), (.int (nar .boolean (1 : Int32))), (.int (nar .boolean (1 : Int32))), (.int (0 : Int32)), (.int (0 : Int32)), (.int (0 : Int32)), (.int (0 : Int32)), (.int (0 : Int32)), (.int (0 : Int32)), (.int (0 : Int32)), (.int (0 : Int32)), (.int (0 : Int32))] (.int (0 : Int32)) := Arv.set Ar187 kc187 S187 Nn187 H187 G187 (fits_nar_bool _) W187 5 (by decide) (Nat.le_of_ble_eq_true rfl)
  have lt190 : b7 < h187.size := Nat.lt_of_lt_of_le lt183 (Nat.le_of_eq W187.size.symm)
  have lt191 : b149 < h187.size := Nat.lt_of_lt_of_le lt184 (Nat.le_of_eq W187.size.symm)
  have Zs192 : n0 ≤ h187.size := Nat.le_trans Zs185 (Nat.le_of_eq W187.size.symm)
  show own_Go p e below s _ _ _ (T187.setTop (mkF m 141 #[.val (.int p1), .val (.int ((p1 &&& (2147483647 : Int32)) % (15 : Int32))), .val (.ref b7), .unset] [(.ref b149)]))
  refine own_st (fun _ kQ => XS.dup X187.here hx rfl (hb hby at_141) rfl rfl kQ) ?_
  show own_Go p e below s _ _ _ (T187.setTop (mkF m 142 #[.val (.int p1), .val (.int ((p1 &&& (2147483647 : Int32)) % (15 : Int32))), .val (.ref b7), .unset] [(.ref b149), (.ref b149)]))
  refine own_st (fun _ kQ => XT.bipushV X187.here hx rfl (6 : Int32) (hb hby at_142) (by decide) kQ) ?_
  show own_Go p e below s _ _ _ (T187.setTop (mkF m 144 #[.val (.int p1), .val (.int ((p1 &&& (2147483647 : Int32)) % (15 : Int32))), .val (.ref b7), .unset] [(.int (6 : Int32)), (.ref b149), (.ref b149)]))
  refine own_st (fun _ kQ => XT.iconstV X187.here hx rfl (0 : Int32) (hb hby at_144) (by decide) kQ) ?_
  show own_Go p e below s _ _ _ (T187.setTop (mkF m 145 #[.val (.int p1), .val (.int ((p1 &&& (2147483647 : Int32)) % (15 : Int32))), .val (.ref b7), .unset] [(.int (0 : Int32)), (.int (6 : Int32)), (.ref b149), (.ref b149)]))
  obtain ⟨cl193, Ar193, kc193, S193, Nn193, H193, G193⟩ := id F189
  have hin193 : ¬ ((6 : Int32) < 0 ∨ cl193.slots.size ≤ ((6 : Int32) : Int32).toNatClampNeg) := inb_of S193 (by decide)
  obtain ⟨T193, h193, X193, e193, W193, st193⟩ := stZ X187 hx hZ e187 Ar193 (j := (6 : Int32)) hin193 (g := (mkF m 145 #[.val (.int p1), .val (.int ((p1 &&& (2147483647 : Int32)) % (15 : Int32))), .val (.ref b7), .unset] [(.int (0 : Int32)), (.int (6 : Int32)), (.ref b149), (.ref b149)])) rfl rfl (hb hby at_145)
  refine own_st st193 ?_
  have N194 := Fr.snoc X193 N188 g153
  have F195 : Arv Z h193 b149 k149 .boolean (15 : Int32) [(.int (nar .boolean (0 : Int32))), (.int (nar .boolean (0 : Int32))), (.int (nar .boolean (0 : Int32))), (.int (nar .boolean (0 : Int32))), (.int (nar .boolean (1 : Int32))), (.int (nar .boolean (1 : Int32))), (.int (nar .boolean (0 : Int32))), (.int (0 : Int32)), (.int (0 : Int32)), (.int (0 : Int32)), (.int (0 : Int32)), (.int (0 : Int32)), (.int (0 : Int32)), (.int (0 : Int32)), (.int (0 : Int32))] (.int (0 : Int32)) := Arv.set Ar193 kc193 S193 Nn193 H193 G193 (fits_nar_bool _) W193 6 (by decide) (Nat.le_of_ble_eq_true rfl)
  have lt196 : b7 < h193.size := Nat.lt_of_lt_of_le lt190 (Nat.le_of_eq W193.size.symm)
  have lt197 : b149 < h193.size := Nat.lt_of_lt_of_le lt191 (Nat.le_of_eq W193.size.symm)
  have Zs198 : n0 ≤ h193.size := Nat.le_trans Zs192 (Nat.le_of_eq W193.size.symm)
  show own_Go p e below s _ _ _ (T193.setTop (mkF m 146 #[.val (.int p1), .val (.int ((p1 &&& (2147483647 : Int32)) % (15 : Int32))), .val (.ref b7), .unset] [(.ref b149)]))
  refine own_st (fun _ kQ => XS.dup X193.here hx rfl (hb hby at_146) rfl rfl kQ) ?_
  show own_Go p e below s _ _ _ (T193.setTop (mkF m 147 #[.val (.int p1), .val (.int ((p1 &&& (2147483647 : Int32)) % (15 : Int32))), .val (.ref b7), .unset] [(.ref b149), (.ref b149)]))
  refine own_st (fun _ kQ => XT.bipushV X193.here hx rfl (7 : Int32) (hb hby at_147) (by decide) kQ) ?_
  show own_Go p e below s _ _ _ (T193.setTop (mkF m 149 #[.val (.int p1), .val (.int ((p1 &&& (2147483647 : Int32)) % (15 : Int32))), .val (.ref b7), .unset] [(.int (7 : Int32)), (.ref b149), (.ref b149)]))
  refine own_st (fun _ kQ => XT.iconstV X193.here hx rfl (0 : Int32) (hb hby at_149) (by decide) kQ) ?_
  show own_Go p e below s _ _ _ (T193.setTop (mkF m 150 #[.val (.int p1), .val (.int ((p1 &&& (2147483647 : Int32)) % (15 : Int32))), .val (.ref b7), .unset] [(.int (0 : Int32)), (.int (7 : Int32)), (.ref b149), (.ref b149)]))
  obtain ⟨cl199, Ar199, kc199, S199, Nn199, H199, G199⟩ := id F195
  have hin199 : ¬ ((7 : Int32) < 0 ∨ cl199.slots.size ≤ ((7 : Int32) : Int32).toNatClampNeg) := inb_of S199 (by decide)
  obtain ⟨T199, h199, X199, e199, W199, st199⟩ := stZ X193 hx hZ e193 Ar199 (j := (7 : Int32)) hin199 (g := (mkF m 150 #[.val (.int p1), .val (.int ((p1 &&& (2147483647 : Int32)) % (15 : Int32))), .val (.ref b7), .unset] [(.int (0 : Int32)), (.int (7 : Int32)), (.ref b149), (.ref b149)])) rfl rfl (hb hby at_150)
  refine own_st st199 ?_
  have N200 := Fr.snoc X199 N194 g153
  have F201 : Arv Z h199 b149 k149 .boolean (15 : Int32) [(.int (nar .boolean (0 : Int32))), (.int (nar .boolean (0 : Int32))), (.int (nar .boolean (0 : Int32))), (.int (nar .boolean (0 : Int32))), (.int (nar .boolean (1 : Int32))), (.int (nar .boolean (1 : Int32))), (.int (nar .boolean (0 : Int32))), (.int (nar .boolean (0 : Int32))), (.int (0 : Int32)), (.int (0 : Int32)), (.int (0 : Int32)), (.int (0 : Int32)), (.int (0 : Int32)), (.int (0 : Int32)), (.int (0 : Int32))] (.int (0 : Int32)) := Arv.set Ar199 kc199 S199 Nn199 H199 G199 (fits_nar_bool _) W199 7 (by decide) (Nat.le_of_ble_eq_true rfl)
  have lt202 : b7 < h199.size := Nat.lt_of_lt_of_le lt196 (Nat.le_of_eq W199.size.symm)
  have lt203 : b149 < h199.size := Nat.lt_of_lt_of_le lt197 (Nat.le_of_eq W199.size.symm)
  have Zs204 : n0 ≤ h199.size := Nat.le_trans Zs198 (Nat.le_of_eq W199.size.symm)
  show own_Go p e below s _ _ _ (T199.setTop (mkF m 151 #[.val (.int p1), .val (.int ((p1 &&& (2147483647 : Int32)) % (15 : Int32))), .val (.ref b7), .unset] [(.ref b149)]))
  refine own_st (fun _ kQ => XS.dup X199.here hx rfl (hb hby at_151) rfl rfl kQ) ?_
  show own_Go p e below s _ _ _ (T199.setTop (mkF m 152 #[.val (.int p1), .val (.int ((p1 &&& (2147483647 : Int32)) % (15 : Int32))), .val (.ref b7), .unset] [(.ref b149), (.ref b149)]))
  refine own_st (fun _ kQ => XT.bipushV X199.here hx rfl (8 : Int32) (hb hby at_152) (by decide) kQ) ?_
  show own_Go p e below s _ _ _ (T199.setTop (mkF m 154 #[.val (.int p1), .val (.int ((p1 &&& (2147483647 : Int32)) % (15 : Int32))), .val (.ref b7), .unset] [(.int (8 : Int32)), (.ref b149), (.ref b149)]))
  refine own_st (fun _ kQ => XT.iconstV X199.here hx rfl (0 : Int32) (hb hby at_154) (by decide) kQ) ?_
  show own_Go p e below s _ _ _ (T199.setTop (mkF m 155 #[.val (.int p1), .val (.int ((p1 &&& (2147483647 : Int32)) % (15 : Int32))), .val (.ref b7), .unset] [(.int (0 : Int32)), (.int (8 : Int32)), (.ref b149), (.ref b149)]))
  obtain ⟨cl205, Ar205, kc205, S205, Nn205, H205, G205⟩ := id F201
  have hin205 : ¬ ((8 : Int32) < 0 ∨ cl205.slots.size ≤ ((8 : Int32) : Int32).toNatClampNeg) := inb_of S205 (by decide)
  obtain ⟨T205, h205, X205, e205, W205, st205⟩ := stZ X199 hx hZ e199 Ar205 (j := (8 : Int32)) hin205 (g := (mkF m 155 #[.val (.int p1), .val (.int ((p1 &&& (2147483647 : Int32)) % (15 : Int32))), .val (.ref b7), .unset] [(.int (0 : Int32)), (.int (8 : Int32)), (.ref b149), (.ref b149)])) rfl rfl (hb hby at_155)
  refine own_st st205 ?_
  have N206 := Fr.snoc X205 N200 g153
  have F207 : Arv Z h205 b149 k149 .boolean (15 : Int32) [(.int (nar .boolean (0 : Int32))), (.int (nar .boolean (0 : Int32))), (.int (nar .boolean (0 : Int32))), (.int (nar .boolean (0 : Int32))), (.int (nar .boolean (1 : Int32))), (.int (nar .boolean (1 : Int32))), (.int (nar .boolean (0 : Int32))), (.int (nar .boolean (0 : Int32))), (.int (nar .boolean (0 : Int32))), (.int (0 : Int32)), (.int (0 : Int32)), (.int (0 : Int32)), (.int (0 : Int32)), (.int (0 : Int32)), (.int (0 : Int32))] (.int (0 : Int32)) := Arv.set Ar205 kc205 S205 Nn205 H205 G205 (fits_nar_bool _) W205 8 (by decide) (Nat.le_of_ble_eq_true rfl)
  have lt208 : b7 < h205.size := Nat.lt_of_lt_of_le lt202 (Nat.le_of_eq W205.size.symm)
  have lt209 : b149 < h205.size := Nat.lt_of_lt_of_le lt203 (Nat.le_of_eq W205.size.symm)
  have Zs210 : n0 ≤ h205.size := Nat.le_trans Zs204 (Nat.le_of_eq W205.size.symm)
  obtain ⟨Lp211, Xp211, Np211⟩ : ∃ L, Stand p l e room_1 s m #[(.int p1)] below meth c T205 L 2 30 ∧ Fr n0 L := ⟨_, X205, N206⟩
  show own_Go p e below s _ _ _ (T205.setTop (mkF m 156 #[.val (.int p1), .val (.int ((p1 &&& (2147483647 : Int32)) % (15 : Int32))), .val (.ref b7), .unset] [(.ref b149)]))
  refine own_st (fun _ kQ => XS.dup Xp211.here hx rfl (hb hby at_156) rfl rfl kQ) ?_
  show own_Go p e below s _ _ _ (T205.setTop (mkF m 157 #[.val (.int p1), .val (.int ((p1 &&& (2147483647 : Int32)) % (15 : Int32))), .val (.ref b7), .unset] [(.ref b149), (.ref b149)]))
  refine own_st (fun _ kQ => XT.bipushV Xp211.here hx rfl (9 : Int32) (hb hby at_157) (by decide) kQ) ?_
  show own_Go p e below s _ _ _ (T205.setTop (mkF m 159 #[.val (.int p1), .val (.int ((p1 &&& (2147483647 : Int32)) % (15 : Int32))), .val (.ref b7), .unset] [(.int (9 : Int32)), (.ref b149), (.ref b149)]))
  refine own_st (fun _ kQ => XT.iconstV Xp211.here hx rfl (0 : Int32) (hb hby at_159) (by decide) kQ) ?_
  show own_Go p e below s _ _ _ (T205.setTop (mkF m 160 #[.val (.int p1), .val (.int ((p1 &&& (2147483647 : Int32)) % (15 : Int32))), .val (.ref b7), .unset] [(.int (0 : Int32)), (.int (9 : Int32)), (.ref b149), (.ref b149)]))
  obtain ⟨cl212, Ar212, kc212, S212, Nn212, H212, G212⟩ := id F207
  have hin212 : ¬ ((9 : Int32) < 0 ∨ cl212.slots.size ≤ ((9 : Int32) : Int32).toNatClampNeg) := inb_of S212 (by decide)
  obtain ⟨T212, h212, X212, e212, W212, st212⟩ := stZ Xp211 hx hZ e205 Ar212 (j := (9 : Int32)) hin212 (g := (mkF m 160 #[.val (.int p1), .val (.int ((p1 &&& (2147483647 : Int32)) % (15 : Int32))), .val (.ref b7), .unset] [(.int (0 : Int32)), (.int (9 : Int32)), (.ref b149), (.ref b149)])) rfl rfl (hb hby at_160)
  refine own_st st212 ?_
  have N213 := Fr.snoc X212 Np211 g153
  have F214 : Arv Z h212 b149 k149 .boolean (15 : Int32) [(.int (nar .boolean (0 : Int32))), (.int (nar .boolean (0 : Int32))), (.int (nar .boolean (0 : Int32))), (.int (nar .boolean (0 : Int32))), (.int (nar .boolean (1 : Int32))), (.int (nar .boolean (1 : Int32))), (.int (nar .boolean (0 : Int32))), (.int (nar .boolean (0 : Int32))), (.int (nar .boolean (0 : Int32))), (.int (nar .boolean (0 : Int32))), (.int (0 : Int32)), (.int (0 : Int32)), (.int (0 : Int32)), (.int (0 : Int32)), (.int (0 : Int32))] (.int (0 : Int32)) := Arv.set Ar212 kc212 S212 Nn212 H212 G212 (fits_nar_bool _) W212 9 (by decide) (Nat.le_of_ble_eq_true rfl)
  have lt215 : b7 < h212.size := Nat.lt_of_lt_of_le lt208 (Nat.le_of_eq W212.size.symm)
  have lt216 : b149 < h212.size := Nat.lt_of_lt_of_le lt209 (Nat.le_of_eq W212.size.symm)
  have Zs217 : n0 ≤ h212.size := Nat.le_trans Zs210 (Nat.le_of_eq W212.size.symm)
  show own_Go p e below s _ _ _ (T212.setTop (mkF m 161 #[.val (.int p1), .val (.int ((p1 &&& (2147483647 : Int32)) % (15 : Int32))), .val (.ref b7), .unset] [(.ref b149)]))
  refine own_st (fun _ kQ => XS.dup X212.here hx rfl (hb hby at_161) rfl rfl kQ) ?_
  show own_Go p e below s _ _ _ (T212.setTop (mkF m 162 #[.val (.int p1), .val (.int ((p1 &&& (2147483647 : Int32)) % (15 : Int32))), .val (.ref b7), .unset] [(.ref b149), (.ref b149)]))
  refine own_st (fun _ kQ => XT.bipushV X212.here hx rfl (10 : Int32) (hb hby at_162) (by decide) kQ) ?_
  show own_Go p e below s _ _ _ (T212.setTop (mkF m 164 #[.val (.int p1), .val (.int ((p1 &&& (2147483647 : Int32)) % (15 : Int32))), .val (.ref b7), .unset] [(.int (10 : Int32)), (.ref b149), (.ref b149)]))
  refine own_st (fun _ kQ => XT.iconstV X212.here hx rfl (0 : Int32) (hb hby at_164) (by decide) kQ) ?_
  show own_Go p e below s _ _ _ (T212.setTop (mkF m 165 #[.val (.int p1), .val (.int ((p1 &&& (2147483647 : Int32)) % (15 : Int32))), .val (.ref b7), .unset] [(.int (0 : Int32)), (.int (10 : Int32)), (.ref b149), (.ref b149)]))
  obtain ⟨cl218, Ar218, kc218, S218, Nn218, H218, G218⟩ := id F214
  have hin218 : ¬ ((10 : Int32) < 0 ∨ cl218.slots.size ≤ ((10 : Int32) : Int32).toNatClampNeg) := inb_of S218 (by decide)
  obtain ⟨T218, h218, X218, e218, W218, st218⟩ := stZ X212 hx hZ e212 Ar218 (j := (10 : Int32)) hin218 (g := (mkF m 165 #[.val (.int p1), .val (.int ((p1 &&& (2147483647 : Int32)) % (15 : Int32))), .val (.ref b7), .unset] [(.int (0 : Int32)), (.int (10 : Int32)), (.ref b149), (.ref b149)])) rfl rfl (hb hby at_165)
  refine own_st st218 ?_
  have N219 := Fr.snoc X218 N213 g153
  have F220 : Arv Z h218 b149 k149 .boolean (15 : Int32) [(.int (nar .boolean (0 : Int32))), (.int (nar .boolean (0 : Int32))), (.int (nar .boolean (0 : Int32))), (.int (nar .boolean (0 : Int32))), (.int (nar .boolean (1 : Int32))), (.int (nar .boolean (1 : Int32))), (.int (nar .boolean (0 : Int32))), (.int (nar .boolean (0 : Int32))), (.int (nar .boolean (0 : Int32))), (.int (nar .boolean (0 : Int32))), (.int (nar .boolean (0 : Int32))), (.int (0 : Int32)), (.int (0 : Int32)), (.int (0 : Int32)), (.int (0 : Int32))] (.int (0 : Int32)) := Arv.set Ar218 kc218 S218 Nn218 H218 G218 (fits_nar_bool _) W218 10 (by decide) (Nat.le_of_ble_eq_true rfl)
  have lt221 : b7 < h218.size := Nat.lt_of_lt_of_le lt215 (Nat.le_of_eq W218.size.symm)
  have lt222 : b149 < h218.size := Nat.lt_of_lt_of_le lt216 (Nat.le_of_eq W218.size.symm)
  have Zs223 : n0 ≤ h218.size := Nat.le_trans Zs217 (Nat.le_of_eq W218.size.symm)
  show own_Go p e below s _ _ _ (T218.setTop (mkF m 166 #[.val (.int p1), .val (.int ((p1 &&& (2147483647 : Int32)) % (15 : Int32))), .val (.ref b7), .unset] [(.ref b149)]))
  refine own_st (fun _ kQ => XS.dup X218.here hx rfl (hb hby at_166) rfl rfl kQ) ?_
  show own_Go p e below s _ _ _ (T218.setTop (mkF m 167 #[.val (.int p1), .val (.int ((p1 &&& (2147483647 : Int32)) % (15 : Int32))), .val (.ref b7), .unset] [(.ref b149), (.ref b149)]))
  refine own_st (fun _ kQ => XT.bipushV X218.here hx rfl (11 : Int32) (hb hby at_167) (by decide) kQ) ?_
  show own_Go p e below s _ _ _ (T218.setTop (mkF m 169 #[.val (.int p1), .val (.int ((p1 &&& (2147483647 : Int32)) % (15 : Int32))), .val (.ref b7), .unset] [(.int (11 : Int32)), (.ref b149), (.ref b149)]))
  refine own_st (fun _ kQ => XT.iconstV X218.here hx rfl (0 : Int32) (hb hby at_169) (by decide) kQ) ?_
  show own_Go p e below s _ _ _ (T218.setTop (mkF m 170 #[.val (.int p1), .val (.int ((p1 &&& (2147483647 : Int32)) % (15 : Int32))), .val (.ref b7), .unset] [(.int (0 : Int32)), (.int (11 : Int32)), (.ref b149), (.ref b149)]))
  obtain ⟨cl224, Ar224, kc224, S224, Nn224, H224, G224⟩ := id F220
  have hin224 : ¬ ((11 : Int32) < 0 ∨ cl224.slots.size ≤ ((11 : Int32) : Int32).toNatClampNeg) := inb_of S224 (by decide)
  obtain ⟨T224, h224, X224, e224, W224, st224⟩ := stZ X218 hx hZ e218 Ar224 (j := (11 : Int32)) hin224 (g := (mkF m 170 #[.val (.int p1), .val (.int ((p1 &&& (2147483647 : Int32)) % (15 : Int32))), .val (.ref b7), .unset] [(.int (0 : Int32)), (.int (11 : Int32)), (.ref b149), (.ref b149)])) rfl rfl (hb hby at_170)
  refine own_st st224 ?_
  have N225 := Fr.snoc X224 N219 g153
  have F226 : Arv Z h224 b149 k149 .boolean (15 : Int32) [(.int (nar .boolean (0 : Int32))), (.int (nar .boolean (0 : Int32))), (.int (nar .boolean (0 : Int32))), (.int (nar .boolean (0 : Int32))), (.int (nar .boolean (1 : Int32))), (.int (nar .boolean (1 : Int32))), (.int (nar .boolean (0 : Int32))), (.int (nar .boolean (0 : Int32))), (.int (nar .boolean (0 : Int32))), (.int (nar .boolean (0 : Int32))), (.int (nar .boolean (0 : Int32))), (.int (nar .boolean (0 : Int32))), (.int (0 : Int32)), (.int (0 : Int32)), (.int (0 : Int32))] (.int (0 : Int32)) := Arv.set Ar224 kc224 S224 Nn224 H224 G224 (fits_nar_bool _) W224 11 (by decide) (Nat.le_of_ble_eq_true rfl)
  have lt227 : b7 < h224.size := Nat.lt_of_lt_of_le lt221 (Nat.le_of_eq W224.size.symm)
  have lt228 : b149 < h224.size := Nat.lt_of_lt_of_le lt222 (Nat.le_of_eq W224.size.symm)
  have Zs229 : n0 ≤ h224.size := Nat.le_trans Zs223 (Nat.le_of_eq W224.size.symm)
  show own_Go p e below s _ _ _ (T224.setTop (mkF m 171 #[.val (.int p1), .val (.int ((p1 &&& (2147483647 : Int32)) % (15 : Int32))), .val (.ref b7), .unset] [(.ref b149)]))
  refine own_st (fun _ kQ => XS.dup X224.here hx rfl (hb hby at_171) rfl rfl kQ) ?_
  show own_Go p e below s _ _ _ (T224.setTop (mkF m 172 #[.val (.int p1), .val (.int ((p1 &&& (2147483647 : Int32)) % (15 : Int32))), .val (.ref b7), .unset] [(.ref b149), (.ref b149)]))
  refine own_st (fun _ kQ => XT.bipushV X224.here hx rfl (12 : Int32) (hb hby at_172) (by decide) kQ) ?_
  show own_Go p e below s _ _ _ (T224.setTop (mkF m 174 #[.val (.int p1), .val (.int ((p1 &&& (2147483647 : Int32)) % (15 : Int32))), .val (.ref b7), .unset] [(.int (12 : Int32)), (.ref b149), (.ref b149)]))
  refine own_st (fun _ kQ => XT.iconstV X224.here hx rfl (0 : Int32) (hb hby at_174) (by decide) kQ) ?_
  show own_Go p e below s _ _ _ (T224.setTop (mkF m 175 #[.val (.int p1), .val (.int ((p1 &&& (2147483647 : Int32)) % (15 : Int32))), .val (.ref b7), .unset] [(.int (0 : Int32)), (.int (12 : Int32)), (.ref b149), (.ref b149)]))
  obtain ⟨cl230, Ar230, kc230, S230, Nn230, H230, G230⟩ := id F226
  have hin230 : ¬ ((12 : Int32) < 0 ∨ cl230.slots.size ≤ ((12 : Int32) : Int32).toNatClampNeg) := inb_of S230 (by decide)
  obtain ⟨T230, h230, X230, e230, W230, st230⟩ := stZ X224 hx hZ e224 Ar230 (j := (12 : Int32)) hin230 (g := (mkF m 175 #[.val (.int p1), .val (.int ((p1 &&& (2147483647 : Int32)) % (15 : Int32))), .val (.ref b7), .unset] [(.int (0 : Int32)), (.int (12 : Int32)), (.ref b149), (.ref b149)])) rfl rfl (hb hby at_175)
  refine own_st st230 ?_
  have N231 := Fr.snoc X230 N225 g153
  have F232 : Arv Z h230 b149 k149 .boolean (15 : Int32) [(.int (nar .boolean (0 : Int32))), (.int (nar .boolean (0 : Int32))), (.int (nar .boolean (0 : Int32))), (.int (nar .boolean (0 : Int32))), (.int (nar .boolean (1 : Int32))), (.int (nar .boolean (1 : Int32))), (.int (nar .boolean (0 : Int32))), (.int (nar .boolean (0 : Int32))), (.int (nar .boolean (0 : Int32))), (.int (nar .boolean (0 : Int32))), (.int (nar .boolean (0 : Int32))), (.int (nar .boolean (0 : Int32))), (.int (nar .boolean (0 : Int32))), (.int (0 : Int32)), (.int (0 : Int32))] (.int (0 : Int32)) := Arv.set Ar230 kc230 S230 Nn230 H230 G230 (fits_nar_bool _) W230 12 (by decide) (Nat.le_of_ble_eq_true rfl)
  have lt233 : b7 < h230.size := Nat.lt_of_lt_of_le lt227 (Nat.le_of_eq W230.size.symm)
  have lt234 : b149 < h230.size := Nat.lt_of_lt_of_le lt228 (Nat.le_of_eq W230.size.symm)
  have Zs235 : n0 ≤ h230.size := Nat.le_trans Zs229 (Nat.le_of_eq W230.size.symm)
  obtain ⟨Lp236, Xp236, Np236⟩ : ∃ L, Stand p l e room_1 s m #[(.int p1)] below meth c T230 L 2 30 ∧ Fr n0 L := ⟨_, X230, N231⟩
  show own_Go p e below s _ _ _ (T230.setTop (mkF m 176 #[.val (.int p1), .val (.int ((p1 &&& (2147483647 : Int32)) % (15 : Int32))), .val (.ref b7), .unset] [(.ref b149)]))
  refine own_st (fun _ kQ => XS.dup Xp236.here hx rfl (hb hby at_176) rfl rfl kQ) ?_
  show own_Go p e below s _ _ _ (T230.setTop (mkF m 177 #[.val (.int p1), .val (.int ((p1 &&& (2147483647 : Int32)) % (15 : Int32))), .val (.ref b7), .unset] [(.ref b149), (.ref b149)]))
  refine own_st (fun _ kQ => XT.bipushV Xp236.here hx rfl (13 : Int32) (hb hby at_177) (by decide) kQ) ?_
  show own_Go p e below s _ _ _ (T230.setTop (mkF m 179 #[.val (.int p1), .val (.int ((p1 &&& (2147483647 : Int32)) % (15 : Int32))), .val (.ref b7), .unset] [(.int (13 : Int32)), (.ref b149), (.ref b149)]))
  refine own_st (fun _ kQ => XT.iconstV Xp236.here hx rfl (0 : Int32) (hb hby at_179) (by decide) kQ) ?_
  show own_Go p e below s _ _ _ (T230.setTop (mkF m 180 #[.val (.int p1), .val (.int ((p1 &&& (2147483647 : Int32)) % (15 : Int32))), .val (.ref b7), .unset] [(.int (0 : Int32)), (.int (13 : Int32)), (.ref b149), (.ref b149)]))
  obtain ⟨cl237, Ar237, kc237, S237, Nn237, H237, G237⟩ := id F232
  have hin237 : ¬ ((13 : Int32) < 0 ∨ cl237.slots.size ≤ ((13 : Int32) : Int32).toNatClampNeg) := inb_of S237 (by decide)
  obtain ⟨T237, h237, X237, e237, W237, st237⟩ := stZ Xp236 hx hZ e230 Ar237 (j := (13 : Int32)) hin237 (g := (mkF m 180 #[.val (.int p1), .val (.int ((p1 &&& (2147483647 : Int32)) % (15 : Int32))), .val (.ref b7), .unset] [(.int (0 : Int32)), (.int (13 : Int32)), (.ref b149), (.ref b149)])) rfl rfl (hb hby at_180)
  refine own_st st237 ?_
  have N238 := Fr.snoc X237 Np236 g153
  have F239 : Arv Z h237 b149 k149 .boolean (15 : Int32) [(.int (nar .boolean (0 : Int32))), (.int (nar .boolean (0 : Int32))), (.int (nar .boolean (0 : Int32))), (.int (nar .boolean (0 : Int32))), (.int (nar .boolean (1 : Int32))), (.int (nar .boolean (1 : Int32))), (.int (nar .boolean (0 : Int32))), (.int (nar .boolean (0 : Int32))), (.int (nar .boolean (0 : Int32))), (.int (nar .boolean (0 : Int32))), (.int (nar .boolean (0 : Int32))), (.int (nar .boolean (0 : Int32))), (.int (nar .boolean (0 : Int32))), (.int (nar .boolean (0 : Int32))), (.int (0 : Int32))] (.int (0 : Int32)) := Arv.set Ar237 kc237 S237 Nn237 H237 G237 (fits_nar_bool _) W237 13 (by decide) (Nat.le_of_ble_eq_true rfl)
  have lt240 : b7 < h237.size := Nat.lt_of_lt_of_le lt233 (Nat.le_of_eq W237.size.symm)
  have lt241 : b149 < h237.size := Nat.lt_of_lt_of_le lt234 (Nat.le_of_eq W237.size.symm)
  have Zs242 : n0 ≤ h237.size := Nat.le_trans Zs235 (Nat.le_of_eq W237.size.symm)
  show own_Go p e below s _ _ _ (T237.setTop (mkF m 181 #[.val (.int p1), .val (.int ((p1 &&& (2147483647 : Int32)) % (15 : Int32))), .val (.ref b7), .unset] [(.ref b149)]))
  refine own_st (fun _ kQ => XS.dup X237.here hx rfl (hb hby at_181) rfl rfl kQ) ?_
  show own_Go p e below s _ _ _ (T237.setTop (mkF m 182 #[.val (.int p1), .val (.int ((p1 &&& (2147483647 : Int32)) % (15 : Int32))), .val (.ref b7), .unset] [(.ref b149), (.ref b149)]))
  refine own_st (fun _ kQ => XT.bipushV X237.here hx rfl (14 : Int32) (hb hby at_182) (by decide) kQ) ?_
  show own_Go p e below s _ _ _ (T237.setTop (mkF m 184 #[.val (.int p1), .val (.int ((p1 &&& (2147483647 : Int32)) % (15 : Int32))), .val (.ref b7), .unset] [(.int (14 : Int32)), (.ref b149), (.ref b149)]))
  refine own_st (fun _ kQ => XT.iconstV X237.here hx rfl (0 : Int32) (hb hby at_184) (by decide) kQ) ?_
  show own_Go p e below s _ _ _ (T237.setTop (mkF m 185 #[.val (.int p1), .val (.int ((p1 &&& (2147483647 : Int32)) % (15 : Int32))), .val (.ref b7), .unset] [(.int (0 : Int32)), (.int (14 : Int32)), (.ref b149), (.ref b149)]))
  obtain ⟨cl243, Ar243, kc243, S243, Nn243, H243, G243⟩ := id F239
  have hin243 : ¬ ((14 : Int32) < 0 ∨ cl243.slots.size ≤ ((14 : Int32) : Int32).toNatClampNeg) := inb_of S243 (by decide)
  obtain ⟨T243, h243, X243, e243, W243, st243⟩ := stZ X237 hx hZ e237 Ar243 (j := (14 : Int32)) hin243 (g := (mkF m 185 #[.val (.int p1), .val (.int ((p1 &&& (2147483647 : Int32)) % (15 : Int32))), .val (.ref b7), .unset] [(.int (0 : Int32)), (.int (14 : Int32)), (.ref b149), (.ref b149)])) rfl rfl (hb hby at_185)
  refine own_st st243 ?_
  have N244 := Fr.snoc X243 N238 g153
  have F245 : Arv Z h243 b149 k149 .boolean (15 : Int32) [(.int (nar .boolean (0 : Int32))), (.int (nar .boolean (0 : Int32))), (.int (nar .boolean (0 : Int32))), (.int (nar .boolean (0 : Int32))), (.int (nar .boolean (1 : Int32))), (.int (nar .boolean (1 : Int32))), (.int (nar .boolean (0 : Int32))), (.int (nar .boolean (0 : Int32))), (.int (nar .boolean (0 : Int32))), (.int (nar .boolean (0 : Int32))), (.int (nar .boolean (0 : Int32))), (.int (nar .boolean (0 : Int32))), (.int (nar .boolean (0 : Int32))), (.int (nar .boolean (0 : Int32))), (.int (nar .boolean (0 : Int32)))] (.int (0 : Int32)) := Arv.set Ar243 kc243 S243 Nn243 H243 G243 (fits_nar_bool _) W243 14 (by decide) (Nat.le_of_ble_eq_true rfl)
  have lt246 : b7 < h243.size := Nat.lt_of_lt_of_le lt240 (Nat.le_of_eq W243.size.symm)
  have lt247 : b149 < h243.size := Nat.lt_of_lt_of_le lt241 (Nat.le_of_eq W243.size.symm)
  have Zs248 : n0 ≤ h243.size := Nat.le_trans Zs242 (Nat.le_of_eq W243.size.symm)
  show own_Go p e below s _ _ _ (T243.setTop (mkF m 186 #[.val (.int p1), .val (.int ((p1 &&& (2147483647 : Int32)) % (15 : Int32))), .val (.ref b7), .unset] [(.ref b149)]))
  refine own_st (fun _ kQ => XS.astoreN X243.here hx rfl (hb hby at_186) rfl rfl (l' := #[.val (.int p1), .val (.int ((p1 &&& (2147483647 : Int32)) % (15 : Int32))), .val (.ref b7), .val (.ref b149)]) rfl kQ) ?_
  show own_Go p e below s _ _ _ (T243.setTop (mkF m 187 #[.val (.int p1), .val (.int ((p1 &&& (2147483647 : Int32)) % (15 : Int32))), .val (.ref b7), .val (.ref b149)] []))
  rcases own_lits15 p1 with hi | hi | hi | hi | hi | hi | hi | hi | hi | hi | hi | hi | hi | hi | hi
  · rw [hi]
    show own_Go p e below s _ _ _ (T243.setTop (mkF m 187 #[.val (.int p1), .val (.int (0 : Int32)), .val (.ref b7), .val (.ref b149)] []))
    refine own_st (fun _ kQ => XS.aloadN X243.here hx rfl (hb hby at_187) rfl rfl kQ) ?_
    show own_Go p e below s _ _ _ (T243.setTop (mkF m 188 #[.val (.int p1), .val (.int (0 : Int32)), .val (.ref b7), .val (.ref b149)] [(.ref b7)]))
    refine own_st (fun _ kQ => XS.iloadN X243.here hx rfl (hb hby at_188) rfl kQ) ?_
    show own_Go p e below s _ _ _ (T243.setTop (mkF m 189 #[.val (.int p1), .val (.int (0 : Int32)), .val (.ref b7), .val (.ref b149)] [(.int (0 : Int32)), (.ref b7)]))
    have F249 : Arv Z h243 b7 k7 (.object "com/example/concordat/concordat/TxStatus") (15 : Int32) [(.ref a_TransactionActive), (.ref a_TransactionPreparing), (.ref a_TransactionPrepared), (.ref a_TransactionCommitting), (.ref a_TransactionCommitted), (.ref a_TransactionCommittedOnePhase), (.ref a_TransactionRollingBack), (.ref a_TransactionRolledBack), (.ref a_TransactionRollbackOnly), (.ref a_TransactionReadOnly), (.ref a_TransactionHeuristicRollback), (.ref a_TransactionHeuristicCommit), (.ref a_TransactionHeuristicMixed), (.ref a_TransactionHeuristicHazard), (.ref a_TransactionStatusUnknown)] .null := ((((((((((((((((F146.ext E149).other W155 ne152).other W162 ne152).other W168 ne152).other W174 ne152).other W180 ne152).other W187 ne152).other W193 ne152).other W199 ne152).other W205 ne152).other W212 ne152).other W218 ne152).other W224 ne152).other W230 ne152).other W237 ne152).other W243 ne152)
    obtain ⟨cl250, Ar250, kc250, S250, Nn250, H250, G250⟩ := id F249
    have hin250 : ¬ ((0 : Int32) < 0 ∨ cl250.slots.size ≤ ((0 : Int32) : Int32).toNatClampNeg) := inb_of S250 (by decide)
    have hat250 : cl250.slots[((0 : Int32) : Int32).toNatClampNeg]? = some (.ref a_TransactionActive) := H250.at hin250 rfl
    refine own_st (fun _ kQ => X243.aaload hx (j := (0 : Int32)) (v := (.ref a_TransactionActive)) (own_hp e243 Ar250.1) (State.isArrayOf_alike hZ.alike Ar250.2.1) rfl Ar250.2.2 hin250 hat250 (g := (mkF m 189 #[.val (.int p1), .val (.int (0 : Int32)), .val (.ref b7), .val (.ref b149)] [(.int (0 : Int32)), (.ref b7)])) rfl rfl (hb hby at_189) _ kQ) ?_
    show own_Go p e below s _ _ _ (T243.setTop (mkF m 190 #[.val (.int p1), .val (.int (0 : Int32)), .val (.ref b7), .val (.ref b149)] [(.ref a_TransactionActive)]))
    have O252 : Old Z n0 h243 := (((((((((((((((((O140.wr W143 g9).ext E149).wr W155 g153).wr W162 g153).wr W168 g153).wr W174 g153).wr W180 g153).wr W187 g153).wr W193 g153).wr W199 g153).wr W205 g153).wr W212 g153).wr W218 g153).wr W224 g153).wr W230 g153).wr W237 g153).wr W243 g153)
    have F253 : Exa Z h243 a_TransactionActive "com/example/concordat/concordat/TxStatus" := Ex_a_TransactionActive.ext O252.2
    obtain ⟨cq251, kq251, q251a, q251b, q251c⟩ := isOf hZ e243 F253
    obtain ⟨_, _, ⟨T251, L251, k251, n251⟩, -, X251, ⟨Lc251, hQ251, l251, y251, z251⟩, st251⟩ := X243.virtualBack hx (y := (⟨"com/example/concordat/concordat/TxStatus", "isCommitted", "()Z"⟩ : MethodName)) (z := (⟨"com/example/concordat/concordat/TxStatus", "isCommitted", "()Z"⟩ : MethodName)) hown (mvT hZ (hw _ (List.mem_of_getElem? (i := 36) rfl))) (mvT hZ (hw _ (List.mem_of_getElem? (i := 37) rfl))) (notFace_of_selects (args := #[]) (mvT hZ (hw _ (List.mem_of_getElem? (i := 39) rfl)))) (mvT hZ (hw _ (List.mem_of_getElem? (i := 39) rfl))) (mvT hZ (hw _ (List.mem_of_getElem? (i := 38) rfl))) (by decide) (backOf (W := 0) (own_rm_is l Z a0 hw [] a_TransactionActive a_TransactionCommitted a_TransactionCommittedOnePhase h243 n0 Zs248 O252 S_a_TransactionCommitted S_a_TransactionCommittedOnePhase) hZ (hw _ (List.mem_of_getElem? (i := 40) rfl)) (hw _ (List.mem_of_getElem? (i := 4) rfl)) (by decide) (by decide)) q251a q251c (g := (mkF m 190 #[.val (.int p1), .val (.int (0 : Int32)), .val (.ref b7), .val (.ref b149)] [(.ref a_TransactionActive)])) rfl (by rw [hml]; rfl) (Steps.refl _) (argsL := []) (rest := []) (lenOf own_pd0 rfl) rfl (by show 2 * 0 + _ ≤ _; exact Nat.le_of_eq rfl) (hb hby at_190) (fun _ _ => ⟨rfl, e243, (by decide : 2 + 0 ≤ _), (by decide : 30 + 0 ≤ _)⟩)
    dsimp only [Pt.U, Pt.locs, Pt.cells, Pt.slots] at X251 l251 y251 z251 st251 hQ251
    subst l251 y251 z251
    obtain ⟨N251q, rfl, eh251⟩ := hQ251
    have N254 := Fr.app N244 N251q
    refine own_tr st251 ?_
    show own_Go p e below s _ _ _ (T251.setTop (mkF m 193 #[.val (.int p1), .val (.int (0 : Int32)), .val (.ref b7), .val (.ref b149)] [(.int (own_is a_TransactionCommitted a_TransactionCommittedOnePhase a_TransactionActive))]))
    refine own_st (fun _ kQ => XS.aloadN X251.here hx rfl (hb hby at_193) rfl rfl kQ) ?_
    show own_Go p e below s _ _ _ (T251.setTop (mkF m 194 #[.val (.int p1), .val (.int (0 : Int32)), .val (.ref b7), .val (.ref b149)] [(.ref b149), (.int (own_is a_TransactionCommitted a_TransactionCommittedOnePhase a_TransactionActive))]))
    refine own_st (fun _ kQ => XS.iloadN X251.here hx rfl (hb hby at_194) rfl kQ) ?_
    show own_Go p e below s _ _ _ (T251.setTop (mkF m 195 #[.val (.int p1), .val (.int (0 : Int32)), .val (.ref b7), .val (.ref b149)] [(.int (0 : Int32)), (.ref b149), (.int (own_is a_TransactionCommitted a_TransactionCommittedOnePhase a_TransactionActive))]))
    obtain ⟨cl255, Ar255, kc255, S255, Nn255, H255, G255⟩ := id F245
    have hin255 : ¬ ((0 : Int32) < 0 ∨ cl255.slots.size ≤ ((0 : Int32) : Int32).toNatClampNeg) := inb_of S255 (by decide)
    have hat255 : cl255.slots[((0 : Int32) : Int32).toNatClampNeg]? = some (.int (nar .boolean (0 : Int32))) := H255.at hin255 rfl
    refine own_st (fun _ kQ => X251.baloadBooleans hx (j := (0 : Int32)) (v := (.int (nar .boolean (0 : Int32)))) (own_hp eh251 Ar255.1) (State.isArrayOf_alike hZ.alike Ar255.2.1) Ar255.2.2 hin255 hat255 (g := (mkF m 195 #[.val (.int p1), .val (.int (0 : Int32)), .val (.ref b7), .val (.ref b149)] [(.int (0 : Int32)), (.ref b149), (.int (own_is a_TransactionCommitted a_TransactionCommittedOnePhase a_TransactionActive))])) rfl rfl (hb hby at_195) _ kQ) ?_
    show own_Go p e below s _ _ _ (T251.setTop (mkF m 196 #[.val (.int p1), .val (.int (0 : Int32)), .val (.ref b7), .val (.ref b149)] [(.int (nar .boolean (0 : Int32))), (.int (own_is a_TransactionCommitted a_TransactionCommittedOnePhase a_TransactionActive))]))
    refine own_st (fun _ kQ => XS.icmpNo X251.here hx rfl (hb hby at_196) rfl (XT.ii_ne_f (by rw [show nar .boolean (0 : Int32) = 0 from by decide]; simp [own_is, ne_Active_Committed, ne_Active_CommittedOnePhase])) kQ) ?_
    show own_Go p e below s _ _ _ (T251.setTop (mkF m 199 #[.val (.int p1), .val (.int (0 : Int32)), .val (.ref b7), .val (.ref b149)] []))
    refine own_st (fun _ kQ => XT.iconstV X251.here hx rfl (1 : Int32) (hb hby at_199) (by decide) kQ) ?_
    show own_Go p e below s _ _ _ (T251.setTop (mkF m 200 #[.val (.int p1), .val (.int (0 : Int32)), .val (.ref b7), .val (.ref b149)] [(.int (1 : Int32))]))
    refine own_st (fun _ kQ => XS.goto X251.here hx rfl (pc0 := 200) (pc' := 204) rfl (hb hby at_200) (by decide) (by decide) kQ) ?_
    show own_Go p e below s _ _ _ (T251.setTop (mkF m 204 #[.val (.int p1), .val (.int (0 : Int32)), .val (.ref b7), .val (.ref b149)] [(.int (1 : Int32))]))
    refine own_retN X251 hx hlk Bd.returns (t := .boolean) (z' := (1 : Int32)) (by simp) (by decide) (hb hby at_204) (by decide) (by decide) ?_
    rw [eh251]
    exact ⟨N254, rfl⟩
  · rw [hi]
    show own_Go p e below s _ _ _ (T243.setTop (mkF m 187 #[.val (.int p1), .val (.int (1 : Int32)), .val (.ref b7), .val (.ref b149)] []))
    refine own_st (fun _ kQ => XS.aloadN X243.here hx rfl (hb hby at_187) rfl rfl kQ) ?_
    show own_Go p e below s _ _ _ (T243.setTop (mkF m 188 #[.val (.int p1), .val (.int (1 : Int32)), .val (.ref b7), .val (.ref b149)] [(.ref b7)]))
    refine own_st (fun _ kQ => XS.iloadN X243.here hx rfl (hb hby at_188) rfl kQ) ?_
    show own_Go p e below s _ _ _ (T243.setTop (mkF m 189 #[.val (.int p1), .val (.int (1 : Int32)), .val (.ref b7), .val (.ref b149)] [(.int (1 : Int32)), (.ref b7)]))
    have F256 : Arv Z h243 b7 k7 (.object "com/example/concordat/concordat/TxStatus") (15 : Int32) [(.ref a_TransactionActive), (.ref a_TransactionPreparing), (.ref a_TransactionPrepared), (.ref a_TransactionCommitting), (.ref a_TransactionCommitted), (.ref a_TransactionCommittedOnePhase), (.ref a_TransactionRollingBack), (.ref a_TransactionRolledBack), (.ref a_TransactionRollbackOnly), (.ref a_TransactionReadOnly), (.ref a_TransactionHeuristicRollback), (.ref a_TransactionHeuristicCommit), (.ref a_TransactionHeuristicMixed), (.ref a_TransactionHeuristicHazard), (.ref a_TransactionStatusUnknown)] .null := ((((((((((((((((F146.ext E149).other W155 ne152).other W162 ne152).other W168 ne152).other W174 ne152).other W180 ne152).other W187 ne152).other W193 ne152).other W199 ne152).other W205 ne152).other W212 ne152).other W218 ne152).other W224 ne152).other W230 ne152).other W237 ne152).other W243 ne152)
    obtain ⟨cl257, Ar257, kc257, S257, Nn257, H257, G257⟩ := id F256
    have hin257 : ¬ ((1 : Int32) < 0 ∨ cl257.slots.size ≤ ((1 : Int32) : Int32).toNatClampNeg) := inb_of S257 (by decide)
    have hat257 : cl257.slots[((1 : Int32) : Int32).toNatClampNeg]? = some (.ref a_TransactionPreparing) := H257.at hin257 rfl
    refine own_st (fun _ kQ => X243.aaload hx (j := (1 : Int32)) (v := (.ref a_TransactionPreparing)) (own_hp e243 Ar257.1) (State.isArrayOf_alike hZ.alike Ar257.2.1) rfl Ar257.2.2 hin257 hat257 (g := (mkF m 189 #[.val (.int p1), .val (.int (1 : Int32)), .val (.ref b7), .val (.ref b149)] [(.int (1 : Int32)), (.ref b7)])) rfl rfl (hb hby at_189) _ kQ) ?_
    show own_Go p e below s _ _ _ (T243.setTop (mkF m 190 #[.val (.int p1), .val (.int (1 : Int32)), .val (.ref b7), .val (.ref b149)] [(.ref a_TransactionPreparing)]))
    have O259 : Old Z n0 h243 := (((((((((((((((((O140.wr W143 g9).ext E149).wr W155 g153).wr W162 g153).wr W168 g153).wr W174 g153).wr W180 g153).wr W187 g153).wr W193 g153).wr W199 g153).wr W205 g153).wr W212 g153).wr W218 g153).wr W224 g153).wr W230 g153).wr W237 g153).wr W243 g153)
    have F260 : Exa Z h243 a_TransactionPreparing "com/example/concordat/concordat/TxStatus" := Ex_a_TransactionPreparing.ext O259.2
    obtain ⟨cq258, kq258, q258a, q258b, q258c⟩ := isOf hZ e243 F260
    obtain ⟨_, _, ⟨T258, L258, k258, n258⟩, -, X258, ⟨Lc258, hQ258, l258, y258, z258⟩, st258⟩ := X243.virtualBack hx (y := (⟨"com/example/concordat/concordat/TxStatus", "isCommitted", "()Z"⟩ : MethodName)) (z := (⟨"com/example/concordat/concordat/TxStatus", "isCommitted", "()Z"⟩ : MethodName)) hown (mvT hZ (hw _ (List.mem_of_getElem? (i := 36) rfl))) (mvT hZ (hw _ (List.mem_of_getElem? (i := 37) rfl))) (notFace_of_selects (args := #[]) (mvT hZ (hw _ (List.mem_of_getElem? (i := 39) rfl)))) (mvT hZ (hw _ (List.mem_of_getElem? (i := 39) rfl))) (mvT hZ (hw _ (List.mem_of_getElem? (i := 38) rfl))) (by decide) (backOf (W := 0) (own_rm_is l Z a0 hw [] a_TransactionPreparing a_TransactionCommitted a_TransactionCommittedOnePhase h243 n0 Zs248 O259 S_a_TransactionCommitted S_a_TransactionCommittedOnePhase) hZ (hw _ (List.mem_of_getElem? (i := 40) rfl)) (hw _ (List.mem_of_getElem? (i := 4) rfl)) (by decide) (by decide)) q258a q258c (g := (mkF m 190 #[.val (.int p1), .val (.int (1 : Int32)), .val (.ref b7), .val (.ref b149)] [(.ref a_TransactionPreparing)])) rfl (by rw [hml]; rfl) (Steps.refl _) (argsL := []) (rest := []) (lenOf own_pd0 rfl) rfl (by show 2 * 0 + _ ≤ _; exact Nat.le_of_eq rfl) (hb hby at_190) (fun _ _ => ⟨rfl, e243, (by decide : 2 + 0 ≤ _), (by decide : 30 + 0 ≤ _)⟩)
    dsimp only [Pt.U, Pt.locs, Pt.cells, Pt.slots] at X258 l258 y258 z258 st258 hQ258
    subst l258 y258 z258
    obtain ⟨N258q, rfl, eh258⟩ := hQ258
    have N261 := Fr.app N244 N258q
    refine own_tr st258 ?_
    show own_Go p e below s _ _ _ (T258.setTop (mkF m 193 #[.val (.int p1), .val (.int (1 : Int32)), .val (.ref b7), .val (.ref b149)] [(.int (own_is a_TransactionCommitted a_TransactionCommittedOnePhase a_TransactionPreparing))]))
    refine own_st (fun _ kQ => XS.aloadN X258.here hx rfl (hb hby at_193) rfl rfl kQ) ?_
    show own_Go p e below s _ _ _ (T258.setTop (mkF m 194 #[.val (.int p1), .val (.int (1 : Int32)), .val (.ref b7), .val (.ref b149)] [(.ref b149), (.int (own_is a_TransactionCommitted a_TransactionCommittedOnePhase a_TransactionPreparing))]))
    refine own_st (fun _ kQ => XS.iloadN X258.here hx rfl (hb hby at_194) rfl kQ) ?_
    show own_Go p e below s _ _ _ (T258.setTop (mkF m 195 #[.val (.int p1), .val (.int (1 : Int32)), .val (.ref b7), .val (.ref b149)] [(.int (1 : Int32)), (.ref b149), (.int (own_is a_TransactionCommitted a_TransactionCommittedOnePhase a_TransactionPreparing))]))
    obtain ⟨cl262, Ar262, kc262, S262, Nn262, H262, G262⟩ := id F245
    have hin262 : ¬ ((1 : Int32) < 0 ∨ cl262.slots.size ≤ ((1 : Int32) : Int32).toNatClampNeg) := inb_of S262 (by decide)
    have hat262 : cl262.slots[((1 : Int32) : Int32).toNatClampNeg]? = some (.int (nar .boolean (0 : Int32))) := H262.at hin262 rfl
    refine own_st (fun _ kQ => X258.baloadBooleans hx (j := (1 : Int32)) (v := (.int (nar .boolean (0 : Int32)))) (own_hp eh258 Ar262.1) (State.isArrayOf_alike hZ.alike Ar262.2.1) Ar262.2.2 hin262 hat262 (g := (mkF m 195 #[.val (.int p1), .val (.int (1 : Int32)), .val (.ref b7), .val (.ref b149)] [(.int (1 : Int32)), (.ref b149), (.int (own_is a_TransactionCommitted a_TransactionCommittedOnePhase a_TransactionPreparing))])) rfl rfl (hb hby at_195) _ kQ) ?_
    show own_Go p e below s _ _ _ (T258.setTop (mkF m 196 #[.val (.int p1), .val (.int (1 : Int32)), .val (.ref b7), .val (.ref b149)] [(.int (nar .boolean (0 : Int32))), (.int (own_is a_TransactionCommitted a_TransactionCommittedOnePhase a_TransactionPreparing))]))
    refine own_st (fun _ kQ => XS.icmpNo X258.here hx rfl (hb hby at_196) rfl (XT.ii_ne_f (by rw [show nar .boolean (0 : Int32) = 0 from by decide]; simp [own_is, ne_Preparing_Committed, ne_Preparing_CommittedOnePhase])) kQ) ?_
    show own_Go p e below s _ _ _ (T258.setTop (mkF m 199 #[.val (.int p1), .val (.int (1 : Int32)), .val (.ref b7), .val (.ref b149)] []))
    refine own_st (fun _ kQ => XT.iconstV X258.here hx rfl (1 : Int32) (hb hby at_199) (by decide) kQ) ?_
    show own_Go p e below s _ _ _ (T258.setTop (mkF m 200 #[.val (.int p1), .val (.int (1 : Int32)), .val (.ref b7), .val (.ref b149)] [(.int (1 : Int32))]))
    refine own_st (fun _ kQ => XS.goto X258.here hx rfl (pc0 := 200) (pc' := 204) rfl (hb hby at_200) (by decide) (by decide) kQ) ?_
    show own_Go p e below s _ _ _ (T258.setTop (mkF m 204 #[.val (.int p1), .val (.int (1 : Int32)), .val (.ref b7), .val (.ref b149)] [(.int (1 : Int32))]))
    refine own_retN X258 hx hlk Bd.returns (t := .boolean) (z' := (1 : Int32)) (by simp) (by decide) (hb hby at_204) (by decide) (by decide) ?_
    rw [eh258]
    exact ⟨N261, rfl⟩
  · rw [hi]
    show own_Go p e below s _ _ _ (T243.setTop (mkF m 187 #[.val (.int p1), .val (.int (2 : Int32)), .val (.ref b7), .val (.ref b149)] []))
    refine own_st (fun _ kQ => XS.aloadN X243.here hx rfl (hb hby at_187) rfl rfl kQ) ?_
    show own_Go p e below s _ _ _ (T243.setTop (mkF m 188 #[.val (.int p1), .val (.int (2 : Int32)), .val (.ref b7), .val (.ref b149)] [(.ref b7)]))
    refine own_st (fun _ kQ => XS.iloadN X243.here hx rfl (hb hby at_188) rfl kQ) ?_
    show own_Go p e below s _ _ _ (T243.setTop (mkF m 189 #[.val (.int p1), .val (.int (2 : Int32)), .val (.ref b7), .val (.ref b149)] [(.int (2 : Int32)), (.ref b7)]))
    have F263 : Arv Z h243 b7 k7 (.object "com/example/concordat/concordat/TxStatus") (15 : Int32) [(.ref a_TransactionActive), (.ref a_TransactionPreparing), (.ref a_TransactionPrepared), (.ref a_TransactionCommitting), (.ref a_TransactionCommitted), (.ref a_TransactionCommittedOnePhase), (.ref a_TransactionRollingBack), (.ref a_TransactionRolledBack), (.ref a_TransactionRollbackOnly), (.ref a_TransactionReadOnly), (.ref a_TransactionHeuristicRollback), (.ref a_TransactionHeuristicCommit), (.ref a_TransactionHeuristicMixed), (.ref a_TransactionHeuristicHazard), (.ref a_TransactionStatusUnknown)] .null := ((((((((((((((((F146.ext E149).other W155 ne152).other W162 ne152).other W168 ne152).other W174 ne152).other W180 ne152).other W187 ne152).other W193 ne152).other W199 ne152).other W205 ne152).other W212 ne152).other W218 ne152).other W224 ne152).other W230 ne152).other W237 ne152).other W243 ne152)
    obtain ⟨cl264, Ar264, kc264, S264, Nn264, H264, G264⟩ := id F263
    have hin264 : ¬ ((2 : Int32) < 0 ∨ cl264.slots.size ≤ ((2 : Int32) : Int32).toNatClampNeg) := inb_of S264 (by decide)
    have hat264 : cl264.slots[((2 : Int32) : Int32).toNatClampNeg]? = some (.ref a_TransactionPrepared) := H264.at hin264 rfl
    refine own_st (fun _ kQ => X243.aaload hx (j := (2 : Int32)) (v := (.ref a_TransactionPrepared)) (own_hp e243 Ar264.1) (State.isArrayOf_alike hZ.alike Ar264.2.1) rfl Ar264.2.2 hin264 hat264 (g := (mkF m 189 #[.val (.int p1), .val (.int (2 : Int32)), .val (.ref b7), .val (.ref b149)] [(.int (2 : Int32)), (.ref b7)])) rfl rfl (hb hby at_189) _ kQ) ?_
    show own_Go p e below s _ _ _ (T243.setTop (mkF m 190 #[.val (.int p1), .val (.int (2 : Int32)), .val (.ref b7), .val (.ref b149)] [(.ref a_TransactionPrepared)]))
    have O266 : Old Z n0 h243 := (((((((((((((((((O140.wr W143 g9).ext E149).wr W155 g153).wr W162 g153).wr W168 g153).wr W174 g153).wr W180 g153).wr W187 g153).wr W193 g153).wr W199 g153).wr W205 g153).wr W212 g153).wr W218 g153).wr W224 g153).wr W230 g153).wr W237 g153).wr W243 g153)
    have F267 : Exa Z h243 a_TransactionPrepared "com/example/concordat/concordat/TxStatus" := Ex_a_TransactionPrepared.ext O266.2
    obtain ⟨cq265, kq265, q265a, q265b, q265c⟩ := isOf hZ e243 F267
    obtain ⟨_, _, ⟨T265, L265, k265, n265⟩, -, X265, ⟨Lc265, hQ265, l265, y265, z265⟩, st265⟩ := X243.virtualBack hx (y := (⟨"com/example/concordat/concordat/TxStatus", "isCommitted", "()Z"⟩ : MethodName)) (z := (⟨"com/example/concordat/concordat/TxStatus", "isCommitted", "()Z"⟩ : MethodName)) hown (mvT hZ (hw _ (List.mem_of_getElem? (i := 36) rfl))) (mvT hZ (hw _ (List.mem_of_getElem? (i := 37) rfl))) (notFace_of_selects (args := #[]) (mvT hZ (hw _ (List.mem_of_getElem? (i := 39) rfl)))) (mvT hZ (hw _ (List.mem_of_getElem? (i := 39) rfl))) (mvT hZ (hw _ (List.mem_of_getElem? (i := 38) rfl))) (by decide) (backOf (W := 0) (own_rm_is l Z a0 hw [] a_TransactionPrepared a_TransactionCommitted a_TransactionCommittedOnePhase h243 n0 Zs248 O266 S_a_TransactionCommitted S_a_TransactionCommittedOnePhase) hZ (hw _ (List.mem_of_getElem? (i := 40) rfl)) (hw _ (List.mem_of_getElem? (i := 4) rfl)) (by decide) (by decide)) q265a q265c (g := (mkF m 190 #[.val (.int p1), .val (.int (2 : Int32)), .val (.ref b7), .val (.ref b149)] [(.ref a_TransactionPrepared)])) rfl (by rw [hml]; rfl) (Steps.refl _) (argsL := []) (rest := []) (lenOf own_pd0 rfl) rfl (by show 2 * 0 + _ ≤ _; exact Nat.le_of_eq rfl) (hb hby at_190) (fun _ _ => ⟨rfl, e243, (by decide : 2 + 0 ≤ _), (by decide : 30 + 0 ≤ _)⟩)
    dsimp only [Pt.U, Pt.locs, Pt.cells, Pt.slots] at X265 l265 y265 z265 st265 hQ265
    subst l265 y265 z265
    obtain ⟨N265q, rfl, eh265⟩ := hQ265
    have N268 := Fr.app N244 N265q
    refine own_tr st265 ?_
    show own_Go p e below s _ _ _ (T265.setTop (mkF m 193 #[.val (.int p1), .val (.int (2 : Int32)), .val (.ref b7), .val (.ref b149)] [(.int (own_is a_TransactionCommitted a_TransactionCommittedOnePhase a_TransactionPrepared))]))
    refine own_st (fun _ kQ => XS.aloadN X265.here hx rfl (hb hby at_193) rfl rfl kQ) ?_
    show own_Go p e below s _ _ _ (T265.setTop (mkF m 194 #[.val (.int p1), .val (.int (2 : Int32)), .val (.ref b7), .val (.ref b149)] [(.ref b149), (.int (own_is a_TransactionCommitted a_TransactionCommittedOnePhase a_TransactionPrepared))]))
    refine own_st (fun _ kQ => XS.iloadN X265.here hx rfl (hb hby at_194) rfl kQ) ?_
    show own_Go p e below s _ _ _ (T265.setTop (mkF m 195 #[.val (.int p1), .val (.int (2 : Int32)), .val (.ref b7), .val (.ref b149)] [(.int (2 : Int32)), (.ref b149), (.int (own_is a_TransactionCommitted a_TransactionCommittedOnePhase a_TransactionPrepared))]))
    obtain ⟨cl269, Ar269, kc269, S269, Nn269, H269, G269⟩ := id F245
    have hin269 : ¬ ((2 : Int32) < 0 ∨ cl269.slots.size ≤ ((2 : Int32) : Int32).toNatClampNeg) := inb_of S269 (by decide)
    have hat269 : cl269.slots[((2 : Int32) : Int32).toNatClampNeg]? = some (.int (nar .boolean (0 : Int32))) := H269.at hin269 rfl
    refine own_st (fun _ kQ => X265.baloadBooleans hx (j := (2 : Int32)) (v := (.int (nar .boolean (0 : Int32)))) (own_hp eh265 Ar269.1) (State.isArrayOf_alike hZ.alike Ar269.2.1) Ar269.2.2 hin269 hat269 (g := (mkF m 195 #[.val (.int p1), .val (.int (2 : Int32)), .val (.ref b7), .val (.ref b149)] [(.int (2 : Int32)), (.ref b149), (.int (own_is a_TransactionCommitted a_TransactionCommittedOnePhase a_TransactionPrepared))])) rfl rfl (hb hby at_195) _ kQ) ?_
    show own_Go p e below s _ _ _ (T265.setTop (mkF m 196 #[.val (.int p1), .val (.int (2 : Int32)), .val (.ref b7), .val (.ref b149)] [(.int (nar .boolean (0 : Int32))), (.int (own_is a_TransactionCommitted a_TransactionCommittedOnePhase a_TransactionPrepared))]))
    refine own_st (fun _ kQ => XS.icmpNo X265.here hx rfl (hb hby at_196) rfl (XT.ii_ne_f (by rw [show nar .boolean (0 : Int32) = 0 from by decide]; simp [own_is, ne_Prepared_Committed, ne_Prepared_CommittedOnePhase])) kQ) ?_
    show own_Go p e below s _ _ _ (T265.setTop (mkF m 199 #[.val (.int p1), .val (.int (2 : Int32)), .val (.ref b7), .val (.ref b149)] []))
    refine own_st (fun _ kQ => XT.iconstV X265.here hx rfl (1 : Int32) (hb hby at_199) (by decide) kQ) ?_
    show own_Go p e below s _ _ _ (T265.setTop (mkF m 200 #[.val (.int p1), .val (.int (2 : Int32)), .val (.ref b7), .val (.ref b149)] [(.int (1 : Int32))]))
    refine own_st (fun _ kQ => XS.goto X265.here hx rfl (pc0 := 200) (pc' := 204) rfl (hb hby at_200) (by decide) (by decide) kQ) ?_
    show own_Go p e below s _ _ _ (T265.setTop (mkF m 204 #[.val (.int p1), .val (.int (2 : Int32)), .val (.ref b7), .val (.ref b149)] [(.int (1 : Int32))]))
    refine own_retN X265 hx hlk Bd.returns (t := .boolean) (z' := (1 : Int32)) (by simp) (by decide) (hb hby at_204) (by decide) (by decide) ?_
    rw [eh265]
    exact ⟨N268, rfl⟩
  · rw [hi]
    show own_Go p e below s _ _ _ (T243.setTop (mkF m 187 #[.val (.int p1), .val (.int (3 : Int32)), .val (.ref b7), .val (.ref b149)] []))
    refine own_st (fun _ kQ => XS.aloadN X243.here hx rfl (hb hby at_187) rfl rfl kQ) ?_
    show own_Go p e below s _ _ _ (T243.setTop (mkF m 188 #[.val (.int p1), .val (.int (3 : Int32)), .val (.ref b7), .val (.ref b149)] [(.ref b7)]))
    refine own_st (fun _ kQ => XS.iloadN X243.here hx rfl (hb hby at_188) rfl kQ) ?_
    show own_Go p e below s _ _ _ (T243.setTop (mkF m 189 #[.val (.int p1), .val (.int (3 : Int32)), .val (.ref b7), .val (.ref b149)] [(.int (3 : Int32)), (.ref b7)]))
    have F270 : Arv Z h243 b7 k7 (.object "com/example/concordat/concordat/TxStatus") (15 : Int32) [(.ref a_TransactionActive), (.ref a_TransactionPreparing), (.ref a_TransactionPrepared), (.ref a_TransactionCommitting), (.ref a_TransactionCommitted), (.ref a_TransactionCommittedOnePhase), (.ref a_TransactionRollingBack), (.ref a_TransactionRolledBack), (.ref a_TransactionRollbackOnly), (.ref a_TransactionReadOnly), (.ref a_TransactionHeuristicRollback), (.ref a_TransactionHeuristicCommit), (.ref a_TransactionHeuristicMixed), (.ref a_TransactionHeuristicHazard), (.ref a_TransactionStatusUnknown)] .null := ((((((((((((((((F146.ext E149).other W155 ne152).other W162 ne152).other W168 ne152).other W174 ne152).other W180 ne152).other W187 ne152).other W193 ne152).other W199 ne152).other W205 ne152).other W212 ne152).other W218 ne152).other W224 ne152).other W230 ne152).other W237 ne152).other W243 ne152)
    obtain ⟨cl271, Ar271, kc271, S271, Nn271, H271, G271⟩ := id F270
    have hin271 : ¬ ((3 : Int32) < 0 ∨ cl271.slots.size ≤ ((3 : Int32) : Int32).toNatClampNeg) := inb_of S271 (by decide)
    have hat271 : cl271.slots[((3 : Int32) : Int32).toNatClampNeg]? = some (.ref a_TransactionCommitting) := H271.at hin271 rfl
    refine own_st (fun _ kQ => X243.aaload hx (j := (3 : Int32)) (v := (.ref a_TransactionCommitting)) (own_hp e243 Ar271.1) (State.isArrayOf_alike hZ.alike Ar271.2.1) rfl Ar271.2.2 hin271 hat271 (g := (mkF m 189 #[.val (.int p1), .val (.int (3 : Int32)), .val (.ref b7), .val (.ref b149)] [(.int (3 : Int32)), (.ref b7)])) rfl rfl (hb hby at_189) _ kQ) ?_
    show own_Go p e below s _ _ _ (T243.setTop (mkF m 190 #[.val (.int p1), .val (.int (3 : Int32)), .val (.ref b7), .val (.ref b149)] [(.ref a_TransactionCommitting)]))
    have O273 : Old Z n0 h243 := (((((((((((((((((O140.wr W143 g9).ext E149).wr W155 g153).wr W162 g153).wr W168 g153).wr W174 g153).wr W180 g153).wr W187 g153).wr W193 g153).wr W199 g153).wr W205 g153).wr W212 g153).wr W218 g153).wr W224 g153).wr W230 g153).wr W237 g153).wr W243 g153)
    have F274 : Exa Z h243 a_TransactionCommitting "com/example/concordat/concordat/TxStatus" := Ex_a_TransactionCommitting.ext O273.2
    obtain ⟨cq272, kq272, q272a, q272b, q272c⟩ := isOf hZ e243 F274
    obtain ⟨_, _, ⟨T272, L272, k272, n272⟩, -, X272, ⟨Lc272, hQ272, l272, y272, z272⟩, st272⟩ := X243.virtualBack hx (y := (⟨"com/example/concordat/concordat/TxStatus", "isCommitted", "()Z"⟩ : MethodName)) (z := (⟨"com/example/concordat/concordat/TxStatus", "isCommitted", "()Z"⟩ : MethodName)) hown (mvT hZ (hw _ (List.mem_of_getElem? (i := 36) rfl))) (mvT hZ (hw _ (List.mem_of_getElem? (i := 37) rfl))) (notFace_of_selects (args := #[]) (mvT hZ (hw _ (List.mem_of_getElem? (i := 39) rfl)))) (mvT hZ (hw _ (List.mem_of_getElem? (i := 39) rfl))) (mvT hZ (hw _ (List.mem_of_getElem? (i := 38) rfl))) (by decide) (backOf (W := 0) (own_rm_is l Z a0 hw [] a_TransactionCommitting a_TransactionCommitted a_TransactionCommittedOnePhase h243 n0 Zs248 O273 S_a_TransactionCommitted S_a_TransactionCommittedOnePhase) hZ (hw _ (List.mem_of_getElem? (i := 40) rfl)) (hw _ (List.mem_of_getElem? (i := 4) rfl)) (by decide) (by decide)) q272a q272c (g := (mkF m 190 #[.val (.int p1), .val (.int (3 : Int32)), .val (.ref b7), .val (.ref b149)] [(.ref a_TransactionCommitting)])) rfl (by rw [hml]; rfl) (Steps.refl _) (argsL := []) (rest := []) (lenOf own_pd0 rfl) rfl (by show 2 * 0 + _ ≤ _; exact Nat.le_of_eq rfl) (hb hby at_190) (fun _ _ => ⟨rfl, e243, (by decide : 2 + 0 ≤ _), (by decide : 30 + 0 ≤ _)⟩)
    dsimp only [Pt.U, Pt.locs, Pt.cells, Pt.slots] at X272 l272 y272 z272 st272 hQ272
    subst l272 y272 z272
    obtain ⟨N272q, rfl, eh272⟩ := hQ272
    have N275 := Fr.app N244 N272q
    refine own_tr st272 ?_
    show own_Go p e below s _ _ _ (T272.setTop (mkF m 193 #[.val (.int p1), .val (.int (3 : Int32)), .val (.ref b7), .val (.ref b149)] [(.int (own_is a_TransactionCommitted a_TransactionCommittedOnePhase a_TransactionCommitting))]))
    refine own_st (fun _ kQ => XS.aloadN X272.here hx rfl (hb hby at_193) rfl rfl kQ) ?_
    show own_Go p e below s _ _ _ (T272.setTop (mkF m 194 #[.val (.int p1), .val (.int (3 : Int32)), .val (.ref b7), .val (.ref b149)] [(.ref b149), (.int (own_is a_TransactionCommitted a_TransactionCommittedOnePhase a_TransactionCommitting))]))
    refine own_st (fun _ kQ => XS.iloadN X272.here hx rfl (hb hby at_194) rfl kQ) ?_
    show own_Go p e below s _ _ _ (T272.setTop (mkF m 195 #[.val (.int p1), .val (.int (3 : Int32)), .val (.ref b7), .val (.ref b149)] [(.int (3 : Int32)), (.ref b149), (.int (own_is a_TransactionCommitted a_TransactionCommittedOnePhase a_TransactionCommitting))]))
    obtain ⟨cl276, Ar276, kc276, S276, Nn276, H276, G276⟩ := id F245
    have hin276 : ¬ ((3 : Int32) < 0 ∨ cl276.slots.size ≤ ((3 : Int32) : Int32).toNatClampNeg) := inb_of S276 (by decide)
    have hat276 : cl276.slots[((3 : Int32) : Int32).toNatClampNeg]? = some (.int (nar .boolean (0 : Int32))) := H276.at hin276 rfl
    refine own_st (fun _ kQ => X272.baloadBooleans hx (j := (3 : Int32)) (v := (.int (nar .boolean (0 : Int32)))) (own_hp eh272 Ar276.1) (State.isArrayOf_alike hZ.alike Ar276.2.1) Ar276.2.2 hin276 hat276 (g := (mkF m 195 #[.val (.int p1), .val (.int (3 : Int32)), .val (.ref b7), .val (.ref b149)] [(.int (3 : Int32)), (.ref b149), (.int (own_is a_TransactionCommitted a_TransactionCommittedOnePhase a_TransactionCommitting))])) rfl rfl (hb hby at_195) _ kQ) ?_
    show own_Go p e below s _ _ _ (T272.setTop (mkF m 196 #[.val (.int p1), .val (.int (3 : Int32)), .val (.ref b7), .val (.ref b149)] [(.int (nar .boolean (0 : Int32))), (.int (own_is a_TransactionCommitted a_TransactionCommittedOnePhase a_TransactionCommitting))]))
    refine own_st (fun _ kQ => XS.icmpNo X272.here hx rfl (hb hby at_196) rfl (XT.ii_ne_f (by rw [show nar .boolean (0 : Int32) = 0 from by decide]; simp [own_is, ne_Committing_Committed, ne_Committing_CommittedOnePhase])) kQ) ?_
    show own_Go p e below s _ _ _ (T272.setTop (mkF m 199 #[.val (.int p1), .val (.int (3 : Int32)), .val (.ref b7), .val (.ref b149)] []))
    refine own_st (fun _ kQ => XT.iconstV X272.here hx rfl (1 : Int32) (hb hby at_199) (by decide) kQ) ?_
    show own_Go p e below s _ _ _ (T272.setTop (mkF m 200 #[.val (.int p1), .val (.int (3 : Int32)), .val (.ref b7), .val (.ref b149)] [(.int (1 : Int32))]))
    refine own_st (fun _ kQ => XS.goto X272.here hx rfl (pc0 := 200) (pc' := 204) rfl (hb hby at_200) (by decide) (by decide) kQ) ?_
    show own_Go p e below s _ _ _ (T272.setTop (mkF m 204 #[.val (.int p1), .val (.int (3 : Int32)), .val (.ref b7), .val (.ref b149)] [(.int (1 : Int32))]))
    refine own_retN X272 hx hlk Bd.returns (t := .boolean) (z' := (1 : Int32)) (by simp) (by decide) (hb hby at_204) (by decide) (by decide) ?_
    rw [eh272]
    exact ⟨N275, rfl⟩
  · rw [hi]
    show own_Go p e below s _ _ _ (T243.setTop (mkF m 187 #[.val (.int p1), .val (.int (4 : Int32)), .val (.ref b7), .val (.ref b149)] []))
    refine own_st (fun _ kQ => XS.aloadN X243.here hx rfl (hb hby at_187) rfl rfl kQ) ?_
    show own_Go p e below s _ _ _ (T243.setTop (mkF m 188 #[.val (.int p1), .val (.int (4 : Int32)), .val (.ref b7), .val (.ref b149)] [(.ref b7)]))
    refine own_st (fun _ kQ => XS.iloadN X243.here hx rfl (hb hby at_188) rfl kQ) ?_
    show own_Go p e below s _ _ _ (T243.setTop (mkF m 189 #[.val (.int p1), .val (.int (4 : Int32)), .val (.ref b7), .val (.ref b149)] [(.int (4 : Int32)), (.ref b7)]))
    have F277 : Arv Z h243 b7 k7 (.object "com/example/concordat/concordat/TxStatus") (15 : Int32) [(.ref a_TransactionActive), (.ref a_TransactionPreparing), (.ref a_TransactionPrepared), (.ref a_TransactionCommitting), (.ref a_TransactionCommitted), (.ref a_TransactionCommittedOnePhase), (.ref a_TransactionRollingBack), (.ref a_TransactionRolledBack), (.ref a_TransactionRollbackOnly), (.ref a_TransactionReadOnly), (.ref a_TransactionHeuristicRollback), (.ref a_TransactionHeuristicCommit), (.ref a_TransactionHeuristicMixed), (.ref a_TransactionHeuristicHazard), (.ref a_TransactionStatusUnknown)] .null := ((((((((((((((((F146.ext E149).other W155 ne152).other W162 ne152).other W168 ne152).other W174 ne152).other W180 ne152).other W187 ne152).other W193 ne152).other W199 ne152).other W205 ne152).other W212 ne152).other W218 ne152).other W224 ne152).other W230 ne152).other W237 ne152).other W243 ne152)
    obtain ⟨cl278, Ar278, kc278, S278, Nn278, H278, G278⟩ := id F277
    have hin278 : ¬ ((4 : Int32) < 0 ∨ cl278.slots.size ≤ ((4 : Int32) : Int32).toNatClampNeg) := inb_of S278 (by decide)
    have hat278 : cl278.slots[((4 : Int32) : Int32).toNatClampNeg]? = some (.ref a_TransactionCommitted) := H278.at hin278 rfl
    refine own_st (fun _ kQ => X243.aaload hx (j := (4 : Int32)) (v := (.ref a_TransactionCommitted)) (own_hp e243 Ar278.1) (State.isArrayOf_alike hZ.alike Ar278.2.1) rfl Ar278.2.2 hin278 hat278 (g := (mkF m 189 #[.val (.int p1), .val (.int (4 : Int32)), .val (.ref b7), .val (.ref b149)] [(.int (4 : Int32)), (.ref b7)])) rfl rfl (hb hby at_189) _ kQ) ?_
    show own_Go p e below s _ _ _ (T243.setTop (mkF m 190 #[.val (.int p1), .val (.int (4 : Int32)), .val (.ref b7), .val (.ref b149)] [(.ref a_TransactionCommitted)]))
    have O280 : Old Z n0 h243 := (((((((((((((((((O140.wr W143 g9).ext E149).wr W155 g153).wr W162 g153).wr W168 g153).wr W174 g153).wr W180 g153).wr W187 g153).wr W193 g153).wr W199 g153).wr W205 g153).wr W212 g153).wr W218 g153).wr W224 g153).wr W230 g153).wr W237 g153).wr W243 g153)
    have F281 : Exa Z h243 a_TransactionCommitted "com/example/concordat/concordat/TxStatus" := Ex_a_TransactionCommitted.ext O280.2
    obtain ⟨cq279, kq279, q279a, q279b, q279c⟩ := isOf hZ e243 F281
    obtain ⟨_, _, ⟨T279, L279, k279, n279⟩, -, X279, ⟨Lc279, hQ279, l279, y279, z279⟩, st279⟩ := X243.virtualBack hx (y := (⟨"com/example/concordat/concordat/TxStatus", "isCommitted", "()Z"⟩ : MethodName)) (z := (⟨"com/example/concordat/concordat/TxStatus", "isCommitted", "()Z"⟩ : MethodName)) hown (mvT hZ (hw _ (List.mem_of_getElem? (i := 36) rfl))) (mvT hZ (hw _ (List.mem_of_getElem? (i := 37) rfl))) (notFace_of_selects (args := #[]) (mvT hZ (hw _ (List.mem_of_getElem? (i := 39) rfl)))) (mvT hZ (hw _ (List.mem_of_getElem? (i := 39) rfl))) (mvT hZ (hw _ (List.mem_of_getElem? (i := 38) rfl))) (by decide) (backOf (W := 0) (own_rm_is l Z a0 hw [] a_TransactionCommitted a_TransactionCommitted a_TransactionCommittedOnePhase h243 n0 Zs248 O280 S_a_TransactionCommitted S_a_TransactionCommittedOnePhase) hZ (hw _ (List.mem_of_getElem? (i := 40) rfl)) (hw _ (List.mem_of_getElem? (i := 4) rfl)) (by decide) (by decide)) q279a q279c (g := (mkF m 190 #[.val (.int p1), .val (.int (4 : Int32)), .val (.ref b7), .val (.ref b149)] [(.ref a_TransactionCommitted)])) rfl (by rw [hml]; rfl) (Steps.refl _) (argsL := []) (rest := []) (lenOf own_pd0 rfl) rfl (by show 2 * 0 + _ ≤ _; exact Nat.le_of_eq rfl) (hb hby at_190) (fun _ _ => ⟨rfl, e243, (by decide : 2 + 0 ≤ _), (by decide : 30 + 0 ≤ _)⟩)
    dsimp only [Pt.U, Pt.locs, Pt.cells, Pt.slots] at X279 l279 y279 z279 st279 hQ279
    subst l279 y279 z279
    obtain ⟨N279q, rfl, eh279⟩ := hQ279
    have N282 := Fr.app N244 N279q
    refine own_tr st279 ?_
    show own_Go p e below s _ _ _ (T279.setTop (mkF m 193 #[.val (.int p1), .val (.int (4 : Int32)), .val (.ref b7), .val (.ref b149)] [(.int (own_is a_TransactionCommitted a_TransactionCommittedOnePhase a_TransactionCommitted))]))
    refine own_st (fun _ kQ => XS.aloadN X279.here hx rfl (hb hby at_193) rfl rfl kQ) ?_
    show own_Go p e below s _ _ _ (T279.setTop (mkF m 194 #[.val (.int p1), .val (.int (4 : Int32)), .val (.ref b7), .val (.ref b149)] [(.ref b149), (.int (own_is a_TransactionCommitted a_TransactionCommittedOnePhase a_TransactionCommitted))]))
    refine own_st (fun _ kQ => XS.iloadN X279.here hx rfl (hb hby at_194) rfl kQ) ?_
    show own_Go p e below s _ _ _ (T279.setTop (mkF m 195 #[.val (.int p1), .val (.int (4 : Int32)), .val (.ref b7), .val (.ref b149)] [(.int (4 : Int32)), (.ref b149), (.int (own_is a_TransactionCommitted a_TransactionCommittedOnePhase a_TransactionCommitted))]))
    obtain ⟨cl283, Ar283, kc283, S283, Nn283, H283, G283⟩ := id F245
    have hin283 : ¬ ((4 : Int32) < 0 ∨ cl283.slots.size ≤ ((4 : Int32) : Int32).toNatClampNeg) := inb_of S283 (by decide)
    have hat283 : cl283.slots[((4 : Int32) : Int32).toNatClampNeg]? = some (.int (nar .boolean (1 : Int32))) := H283.at hin283 rfl
    refine own_st (fun _ kQ => X279.baloadBooleans hx (j := (4 : Int32)) (v := (.int (nar .boolean (1 : Int32)))) (own_hp eh279 Ar283.1) (State.isArrayOf_alike hZ.alike Ar283.2.1) Ar283.2.2 hin283 hat283 (g := (mkF m 195 #[.val (.int p1), .val (.int (4 : Int32)), .val (.ref b7), .val (.ref b149)] [(.int (4 : Int32)), (.ref b149), (.int (own_is a_TransactionCommitted a_TransactionCommittedOnePhase a_TransactionCommitted))])) rfl rfl (hb hby at_195) _ kQ) ?_
    show own_Go p e below s _ _ _ (T279.setTop (mkF m 196 #[.val (.int p1), .val (.int (4 : Int32)), .val (.ref b7), .val (.ref b149)] [(.int (nar .boolean (1 : Int32))), (.int (own_is a_TransactionCommitted a_TransactionCommittedOnePhase a_TransactionCommitted))]))
    refine own_st (fun _ kQ => XS.icmpNo X279.here hx rfl (hb hby at_196) rfl (XT.ii_ne_f (by rw [show nar .boolean (1 : Int32) = 1 from by decide]; simp [own_is, ne_Committed_CommittedOnePhase])) kQ) ?_
    show own_Go p e below s _ _ _ (T279.setTop (mkF m 199 #[.val (.int p1), .val (.int (4 : Int32)), .val (.ref b7), .val (.ref b149)] []))
    refine own_st (fun _ kQ => XT.iconstV X279.here hx rfl (1 : Int32) (hb hby at_199) (by decide) kQ) ?_
    show own_Go p e below s _ _ _ (T279.setTop (mkF m 200 #[.val (.int p1), .val (.int (4 : Int32)), .val (.ref b7), .val (.ref b149)] [(.int (1 : Int32))]))
    refine own_st (fun _ kQ => XS.goto X279.here hx rfl (pc0 := 200) (pc' := 204) rfl (hb hby at_200) (by decide) (by decide) kQ) ?_
    show own_Go p e below s _ _ _ (T279.setTop (mkF m 204 #[.val (.int p1), .val (.int (4 : Int32)), .val (.ref b7), .val (.ref b149)] [(.int (1 : Int32))]))
    refine own_retN X279 hx hlk Bd.returns (t := .boolean) (z' := (1 : Int32)) (by simp) (by decide) (hb hby at_204) (by decide) (by decide) ?_
    rw [eh279]
    exact ⟨N282, rfl⟩
  · rw [hi]
    show own_Go p e below s _ _ _ (T243.setTop (mkF m 187 #[.val (.int p1), .val (.int (5 : Int32)), .val (.ref b7), .val (.ref b149)] []))
    refine own_st (fun _ kQ => XS.aloadN X243.here hx rfl (hb hby at_187) rfl rfl kQ) ?_
    show own_Go p e below s _ _ _ (T243.setTop (mkF m 188 #[.val (.int p1), .val (.int (5 : Int32)), .val (.ref b7), .val (.ref b149)] [(.ref b7)]))
    refine own_st (fun _ kQ => XS.iloadN X243.here hx rfl (hb hby at_188) rfl kQ) ?_
    show own_Go p e below s _ _ _ (T243.setTop (mkF m 189 #[.val (.int p1), .val (.int (5 : Int32)), .val (.ref b7), .val (.ref b149)] [(.int (5 : Int32)), (.ref b7)]))
    have F284 : Arv Z h243 b7 k7 (.object "com/example/concordat/concordat/TxStatus") (15 : Int32) [(.ref a_TransactionActive), (.ref a_TransactionPreparing), (.ref a_TransactionPrepared), (.ref a_TransactionCommitting), (.ref a_TransactionCommitted), (.ref a_TransactionCommittedOnePhase), (.ref a_TransactionRollingBack), (.ref a_TransactionRolledBack), (.ref a_TransactionRollbackOnly), (.ref a_TransactionReadOnly), (.ref a_TransactionHeuristicRollback), (.ref a_TransactionHeuristicCommit), (.ref a_TransactionHeuristicMixed), (.ref a_TransactionHeuristicHazard), (.ref a_TransactionStatusUnknown)] .null := ((((((((((((((((F146.ext E149).other W155 ne152).other W162 ne152).other W168 ne152).other W174 ne152).other W180 ne152).other W187 ne152).other W193 ne152).other W199 ne152).other W205 ne152).other W212 ne152).other W218 ne152).other W224 ne152).other W230 ne152).other W237 ne152).other W243 ne152)
    obtain ⟨cl285, Ar285, kc285, S285, Nn285, H285, G285⟩ := id F284
    have hin285 : ¬ ((5 : Int32) < 0 ∨ cl285.slots.size ≤ ((5 : Int32) : Int32).toNatClampNeg) := inb_of S285 (by decide)
    have hat285 : cl285.slots[((5 : Int32) : Int32).toNatClampNeg]? = some (.ref a_TransactionCommittedOnePhase) := H285.at hin285 rfl
    refine own_st (fun _ kQ => X243.aaload hx (j := (5 : Int32)) (v := (.ref a_TransactionCommittedOnePhase)) (own_hp e243 Ar285.1) (State.isArrayOf_alike hZ.alike Ar285.2.1) rfl Ar285.2.2 hin285 hat285 (g := (mkF m 189 #[.val (.int p1), .val (.int (5 : Int32)), .val (.ref b7), .val (.ref b149)] [(.int (5 : Int32)), (.ref b7)])) rfl rfl (hb hby at_189) _ kQ) ?_
    show own_Go p e below s _ _ _ (T243.setTop (mkF m 190 #[.val (.int p1), .val (.int (5 : Int32)), .val (.ref b7), .val (.ref b149)] [(.ref a_TransactionCommittedOnePhase)]))
    have O287 : Old Z n0 h243 := (((((((((((((((((O140.wr W143 g9).ext E149).wr W155 g153).wr W162 g153).wr W168 g153).wr W174 g153).wr W180 g153).wr W187 g153).wr W193 g153).wr W199 g153).wr W205 g153).wr W212 g153).wr W218 g153).wr W224 g153).wr W230 g153).wr W237 g153).wr W243 g153)
    have F288 : Exa Z h243 a_TransactionCommittedOnePhase "com/example/concordat/concordat/TxStatus" := Ex_a_TransactionCommittedOnePhase.ext O287.2
    obtain ⟨cq286, kq286, q286a, q286b, q286c⟩ := isOf hZ e243 F288
    obtain ⟨_, _, ⟨T286, L286, k286, n286⟩, -, X286, ⟨Lc286, hQ286, l286, y286, z286⟩, st286⟩ := X243.virtualBack hx (y := (⟨"com/example/concordat/concordat/TxStatus", "isCommitted", "()Z"⟩ : MethodName)) (z := (⟨"com/example/concordat/concordat/TxStatus", "isCommitted", "()Z"⟩ : MethodName)) hown (mvT hZ (hw _ (List.mem_of_getElem? (i := 36) rfl))) (mvT hZ (hw _ (List.mem_of_getElem? (i := 37) rfl))) (notFace_of_selects (args := #[]) (mvT hZ (hw _ (List.mem_of_getElem? (i := 39) rfl)))) (mvT hZ (hw _ (List.mem_of_getElem? (i := 39) rfl))) (mvT hZ (hw _ (List.mem_of_getElem? (i := 38) rfl))) (by decide) (backOf (W := 0) (own_rm_is l Z a0 hw [] a_TransactionCommittedOnePhase a_TransactionCommitted a_TransactionCommittedOnePhase h243 n0 Zs248 O287 S_a_TransactionCommitted S_a_TransactionCommittedOnePhase) hZ (hw _ (List.mem_of_getElem? (i := 40) rfl)) (hw _ (List.mem_of_getElem? (i := 4) rfl)) (by decide) (by decide)) q286a q286c (g := (mkF m 190 #[.val (.int p1), .val (.int (5 : Int32)), .val (.ref b7), .val (.ref b149)] [(.ref a_TransactionCommittedOnePhase)])) rfl (by rw [hml]; rfl) (Steps.refl _) (argsL := []) (rest := []) (lenOf own_pd0 rfl) rfl (by show 2 * 0 + _ ≤ _; exact Nat.le_of_eq rfl) (hb hby at_190) (fun _ _ => ⟨rfl, e243, (by decide : 2 + 0 ≤ _), (by decide : 30 + 0 ≤ _)⟩)
    dsimp only [Pt.U, Pt.locs, Pt.cells, Pt.slots] at X286 l286 y286 z286 st286 hQ286
    subst l286 y286 z286
    obtain ⟨N286q, rfl, eh286⟩ := hQ286
    have N289 := Fr.app N244 N286q
    refine own_tr st286 ?_
    show own_Go p e below s _ _ _ (T286.setTop (mkF m 193 #[.val (.int p1), .val (.int (5 : Int32)), .val (.ref b7), .val (.ref b149)] [(.int (own_is a_TransactionCommitted a_TransactionCommittedOnePhase a_TransactionCommittedOnePhase))]))
    refine own_st (fun _ kQ => XS.aloadN X286.here hx rfl (hb hby at_193) rfl rfl kQ) ?_
    show own_Go p e below s _ _ _ (T286.setTop (mkF m 194 #[.val (.int p1), .val (.int (5 : Int32)), .val (.ref b7), .val (.ref b149)] [(.ref b149), (.int (own_is a_TransactionCommitted a_TransactionCommittedOnePhase a_TransactionCommittedOnePhase))]))
    refine own_st (fun _ kQ => XS.iloadN X286.here hx rfl (hb hby at_194) rfl kQ) ?_
    show own_Go p e below s _ _ _ (T286.setTop (mkF m 195 #[.val (.int p1), .val (.int (5 : Int32)), .val (.ref b7), .val (.ref b149)] [(.int (5 : Int32)), (.ref b149), (.int (own_is a_TransactionCommitted a_TransactionCommittedOnePhase a_TransactionCommittedOnePhase))]))
    obtain ⟨cl290, Ar290, kc290, S290, Nn290, H290, G290⟩ := id F245
    have hin290 : ¬ ((5 : Int32) < 0 ∨ cl290.slots.size ≤ ((5 : Int32) : Int32).toNatClampNeg) := inb_of S290 (by decide)
    have hat290 : cl290.slots[((5 : Int32) : Int32).toNatClampNeg]? = some (.int (nar .boolean (1 : Int32))) := H290.at hin290 rfl
    refine own_st (fun _ kQ => X286.baloadBooleans hx (j := (5 : Int32)) (v := (.int (nar .boolean (1 : Int32)))) (own_hp eh286 Ar290.1) (State.isArrayOf_alike hZ.alike Ar290.2.1) Ar290.2.2 hin290 hat290 (g := (mkF m 195 #[.val (.int p1), .val (.int (5 : Int32)), .val (.ref b7), .val (.ref b149)] [(.int (5 : Int32)), (.ref b149), (.int (own_is a_TransactionCommitted a_TransactionCommittedOnePhase a_TransactionCommittedOnePhase))])) rfl rfl (hb hby at_195) _ kQ) ?_
    show own_Go p e below s _ _ _ (T286.setTop (mkF m 196 #[.val (.int p1), .val (.int (5 : Int32)), .val (.ref b7), .val (.ref b149)] [(.int (nar .boolean (1 : Int32))), (.int (own_is a_TransactionCommitted a_TransactionCommittedOnePhase a_TransactionCommittedOnePhase))]))
    refine own_st (fun _ kQ => XS.icmpNo X286.here hx rfl (hb hby at_196) rfl (XT.ii_ne_f (by rw [show nar .boolean (1 : Int32) = 1 from by decide]; simp [own_is, ne_CommittedOnePhase_Committed])) kQ) ?_
    show own_Go p e below s _ _ _ (T286.setTop (mkF m 199 #[.val (.int p1), .val (.int (5 : Int32)), .val (.ref b7), .val (.ref b149)] []))
    refine own_st (fun _ kQ => XT.iconstV X286.here hx rfl (1 : Int32) (hb hby at_199) (by decide) kQ) ?_
    show own_Go p e below s _ _ _ (T286.setTop (mkF m 200 #[.val (.int p1), .val (.int (5 : Int32)), .val (.ref b7), .val (.ref b149)] [(.int (1 : Int32))]))
    refine own_st (fun _ kQ => XS.goto X286.here hx rfl (pc0 := 200) (pc' := 204) rfl (hb hby at_200) (by decide) (by decide) kQ) ?_
    show own_Go p e below s _ _ _ (T286.setTop (mkF m 204 #[.val (.int p1), .val (.int (5 : Int32)), .val (.ref b7), .val (.ref b149)] [(.int (1 : Int32))]))
    refine own_retN X286 hx hlk Bd.returns (t := .boolean) (z' := (1 : Int32)) (by simp) (by decide) (hb hby at_204) (by decide) (by decide) ?_
    rw [eh286]
    exact ⟨N289, rfl⟩
  · rw [hi]
    show own_Go p e below s _ _ _ (T243.setTop (mkF m 187 #[.val (.int p1), .val (.int (6 : Int32)), .val (.ref b7), .val (.ref b149)] []))
    refine own_st (fun _ kQ => XS.aloadN X243.here hx rfl (hb hby at_187) rfl rfl kQ) ?_
    show own_Go p e below s _ _ _ (T243.setTop (mkF m 188 #[.val (.int p1), .val (.int (6 : Int32)), .val (.ref b7), .val (.ref b149)] [(.ref b7)]))
    refine own_st (fun _ kQ => XS.iloadN X243.here hx rfl (hb hby at_188) rfl kQ) ?_
    show own_Go p e below s _ _ _ (T243.setTop (mkF m 189 #[.val (.int p1), .val (.int (6 : Int32)), .val (.ref b7), .val (.ref b149)] [(.int (6 : Int32)), (.ref b7)]))
    have F291 : Arv Z h243 b7 k7 (.object "com/example/concordat/concordat/TxStatus") (15 : Int32) [(.ref a_TransactionActive), (.ref a_TransactionPreparing), (.ref a_TransactionPrepared), (.ref a_TransactionCommitting), (.ref a_TransactionCommitted), (.ref a_TransactionCommittedOnePhase), (.ref a_TransactionRollingBack), (.ref a_TransactionRolledBack), (.ref a_TransactionRollbackOnly), (.ref a_TransactionReadOnly), (.ref a_TransactionHeuristicRollback), (.ref a_TransactionHeuristicCommit), (.ref a_TransactionHeuristicMixed), (.ref a_TransactionHeuristicHazard), (.ref a_TransactionStatusUnknown)] .null := ((((((((((((((((F146.ext E149).other W155 ne152).other W162 ne152).other W168 ne152).other W174 ne152).other W180 ne152).other W187 ne152).other W193 ne152).other W199 ne152).other W205 ne152).other W212 ne152).other W218 ne152).other W224 ne152).other W230 ne152).other W237 ne152).other W243 ne152)
    obtain ⟨cl292, Ar292, kc292, S292, Nn292, H292, G292⟩ := id F291
    have hin292 : ¬ ((6 : Int32) < 0 ∨ cl292.slots.size ≤ ((6 : Int32) : Int32).toNatClampNeg) := inb_of S292 (by decide)
    have hat292 : cl292.slots[((6 : Int32) : Int32).toNatClampNeg]? = some (.ref a_TransactionRollingBack) := H292.at hin292 rfl
    refine own_st (fun _ kQ => X243.aaload hx (j := (6 : Int32)) (v := (.ref a_TransactionRollingBack)) (own_hp e243 Ar292.1) (State.isArrayOf_alike hZ.alike Ar292.2.1) rfl Ar292.2.2 hin292 hat292 (g := (mkF m 189 #[.val (.int p1), .val (.int (6 : Int32)), .val (.ref b7), .val (.ref b149)] [(.int (6 : Int32)), (.ref b7)])) rfl rfl (hb hby at_189) _ kQ) ?_
    show own_Go p e below s _ _ _ (T243.setTop (mkF m 190 #[.val (.int p1), .val (.int (6 : Int32)), .val (.ref b7), .val (.ref b149)] [(.ref a_TransactionRollingBack)]))
    have O294 : Old Z n0 h243 := (((((((((((((((((O140.wr W143 g9).ext E149).wr W155 g153).wr W162 g153).wr W168 g153).wr W174 g153).wr W180 g153).wr W187 g153).wr W193 g153).wr W199 g153).wr W205 g153).wr W212 g153).wr W218 g153).wr W224 g153).wr W230 g153).wr W237 g153).wr W243 g153)
    have F295 : Exa Z h243 a_TransactionRollingBack "com/example/concordat/concordat/TxStatus" := Ex_a_TransactionRollingBack.ext O294.2
    obtain ⟨cq293, kq293, q293a, q293b, q293c⟩ := isOf hZ e243 F295
    obtain ⟨_, _, ⟨T293, L293, k293, n293⟩, -, X293, ⟨Lc293, hQ293, l293, y293, z293⟩, st293⟩ := X243.virtualBack hx (y := (⟨"com/example/concordat/concordat/TxStatus", "isCommitted", "()Z"⟩ : MethodName)) (z := (⟨"com/example/concordat/concordat/TxStatus", "isCommitted", "()Z"⟩ : MethodName)) hown (mvT hZ (hw _ (List.mem_of_getElem? (i := 36) rfl))) (mvT hZ (hw _ (List.mem_of_getElem? (i := 37) rfl))) (notFace_of_selects (args := #[]) (mvT hZ (hw _ (List.mem_of_getElem? (i := 39) rfl)))) (mvT hZ (hw _ (List.mem_of_getElem? (i := 39) rfl))) (mvT hZ (hw _ (List.mem_of_getElem? (i := 38) rfl))) (by decide) (backOf (W := 0) (own_rm_is l Z a0 hw [] a_TransactionRollingBack a_TransactionCommitted a_TransactionCommittedOnePhase h243 n0 Zs248 O294 S_a_TransactionCommitted S_a_TransactionCommittedOnePhase) hZ (hw _ (List.mem_of_getElem? (i := 40) rfl)) (hw _ (List.mem_of_getElem? (i := 4) rfl)) (by decide) (by decide)) q293a q293c (g := (mkF m 190 #[.val (.int p1), .val (.int (6 : Int32)), .val (.ref b7), .val (.ref b149)] [(.ref a_TransactionRollingBack)])) rfl (by rw [hml]; rfl) (Steps.refl _) (argsL := []) (rest := []) (lenOf own_pd0 rfl) rfl (by show 2 * 0 + _ ≤ _; exact Nat.le_of_eq rfl) (hb hby at_190) (fun _ _ => ⟨rfl, e243, (by decide : 2 + 0 ≤ _), (by decide : 30 + 0 ≤ _)⟩)
    dsimp only [Pt.U, Pt.locs, Pt.cells, Pt.slots] at X293 l293 y293 z293 st293 hQ293
    subst l293 y293 z293
    obtain ⟨N293q, rfl, eh293⟩ := hQ293
    have N296 := Fr.app N244 N293q
    refine own_tr st293 ?_
    show own_Go p e below s _ _ _ (T293.setTop (mkF m 193 #[.val (.int p1), .val (.int (6 : Int32)), .val (.ref b7), .val (.ref b149)] [(.int (own_is a_TransactionCommitted a_TransactionCommittedOnePhase a_TransactionRollingBack))]))
    refine own_st (fun _ kQ => XS.aloadN X293.here hx rfl (hb hby at_193) rfl rfl kQ) ?_
    show own_Go p e below s _ _ _ (T293.setTop (mkF m 194 #[.val (.int p1), .val (.int (6 : Int32)), .val (.ref b7), .val (.ref b149)] [(.ref b149), (.int (own_is a_TransactionCommitted a_TransactionCommittedOnePhase a_TransactionRollingBack))]))
    refine own_st (fun _ kQ => XS.iloadN X293.here hx rfl (hb hby at_194) rfl kQ) ?_
    show own_Go p e below s _ _ _ (T293.setTop (mkF m 195 #[.val (.int p1), .val (.int (6 : Int32)), .val (.ref b7), .val (.ref b149)] [(.int (6 : Int32)), (.ref b149), (.int (own_is a_TransactionCommitted a_TransactionCommittedOnePhase a_TransactionRollingBack))]))
    obtain ⟨cl297, Ar297, kc297, S297, Nn297, H297, G297⟩ := id F245
    have hin297 : ¬ ((6 : Int32) < 0 ∨ cl297.slots.size ≤ ((6 : Int32) : Int32).toNatClampNeg) := inb_of S297 (by decide)
    have hat297 : cl297.slots[((6 : Int32) : Int32).toNatClampNeg]? = some (.int (nar .boolean (0 : Int32))) := H297.at hin297 rfl
    refine own_st (fun _ kQ => X293.baloadBooleans hx (j := (6 : Int32)) (v := (.int (nar .boolean (0 : Int32)))) (own_hp eh293 Ar297.1) (State.isArrayOf_alike hZ.alike Ar297.2.1) Ar297.2.2 hin297 hat297 (g := (mkF m 195 #[.val (.int p1), .val (.int (6 : Int32)), .val (.ref b7), .val (.ref b149)] [(.int (6 : Int32)), (.ref b149), (.int (own_is a_TransactionCommitted a_TransactionCommittedOnePhase a_TransactionRollingBack))])) rfl rfl (hb hby at_195) _ kQ) ?_
    show own_Go p e below s _ _ _ (T293.setTop (mkF m 196 #[.val (.int p1), .val (.int (6 : Int32)), .val (.ref b7), .val (.ref b149)] [(.int (nar .boolean (0 : Int32))), (.int (own_is a_TransactionCommitted a_TransactionCommittedOnePhase a_TransactionRollingBack))]))
    refine own_st (fun _ kQ => XS.icmpNo X293.here hx rfl (hb hby at_196) rfl (XT.ii_ne_f (by rw [show nar .boolean (0 : Int32) = 0 from by decide]; simp [own_is, ne_RollingBack_Committed, ne_RollingBack_CommittedOnePhase])) kQ) ?_
    show own_Go p e below s _ _ _ (T293.setTop (mkF m 199 #[.val (.int p1), .val (.int (6 : Int32)), .val (.ref b7), .val (.ref b149)] []))
    refine own_st (fun _ kQ => XT.iconstV X293.here hx rfl (1 : Int32) (hb hby at_199) (by decide) kQ) ?_
    show own_Go p e below s _ _ _ (T293.setTop (mkF m 200 #[.val (.int p1), .val (.int (6 : Int32)), .val (.ref b7), .val (.ref b149)] [(.int (1 : Int32))]))
    refine own_st (fun _ kQ => XS.goto X293.here hx rfl (pc0 := 200) (pc' := 204) rfl (hb hby at_200) (by decide) (by decide) kQ) ?_
    show own_Go p e below s _ _ _ (T293.setTop (mkF m 204 #[.val (.int p1), .val (.int (6 : Int32)), .val (.ref b7), .val (.ref b149)] [(.int (1 : Int32))]))
    refine own_retN X293 hx hlk Bd.returns (t := .boolean) (z' := (1 : Int32)) (by simp) (by decide) (hb hby at_204) (by decide) (by decide) ?_
    rw [eh293]
    exact ⟨N296, rfl⟩
  · rw [hi]
    show own_Go p e below s _ _ _ (T243.setTop (mkF m 187 #[.val (.int p1), .val (.int (7 : Int32)), .val (.ref b7), .val (.ref b149)] []))
    refine own_st (fun _ kQ => XS.aloadN X243.here hx rfl (hb hby at_187) rfl rfl kQ) ?_
    show own_Go p e below s _ _ _ (T243.setTop (mkF m 188 #[.val (.int p1), .val (.int (7 : Int32)), .val (.ref b7), .val (.ref b149)] [(.ref b7)]))
    refine own_st (fun _ kQ => XS.iloadN X243.here hx rfl (hb hby at_188) rfl kQ) ?_
    show own_Go p e below s _ _ _ (T243.setTop (mkF m 189 #[.val (.int p1), .val (.int (7 : Int32)), .val (.ref b7), .val (.ref b149)] [(.int (7 : Int32)), (.ref b7)]))
    have F298 : Arv Z h243 b7 k7 (.object "com/example/concordat/concordat/TxStatus") (15 : Int32) [(.ref a_TransactionActive), (.ref a_TransactionPreparing), (.ref a_TransactionPrepared), (.ref a_TransactionCommitting), (.ref a_TransactionCommitted), (.ref a_TransactionCommittedOnePhase), (.ref a_TransactionRollingBack), (.ref a_TransactionRolledBack), (.ref a_TransactionRollbackOnly), (.ref a_TransactionReadOnly), (.ref a_TransactionHeuristicRollback), (.ref a_TransactionHeuristicCommit), (.ref a_TransactionHeuristicMixed), (.ref a_TransactionHeuristicHazard), (.ref a_TransactionStatusUnknown)] .null := ((((((((((((((((F146.ext E149).other W155 ne152).other W162 ne152).other W168 ne152).other W174 ne152).other W180 ne152).other W187 ne152).other W193 ne152).other W199 ne152).other W205 ne152).other W212 ne152).other W218 ne152).other W224 ne152).other W230 ne152).other W237 ne152).other W243 ne152)
    obtain ⟨cl299, Ar299, kc299, S299, Nn299, H299, G299⟩ := id F298
    have hin299 : ¬ ((7 : Int32) < 0 ∨ cl299.slots.size ≤ ((7 : Int32) : Int32).toNatClampNeg) := inb_of S299 (by decide)
    have hat299 : cl299.slots[((7 : Int32) : Int32).toNatClampNeg]? = some (.ref a_TransactionRolledBack) := H299.at hin299 rfl
    refine own_st (fun _ kQ => X243.aaload hx (j := (7 : Int32)) (v := (.ref a_TransactionRolledBack)) (own_hp e243 Ar299.1) (State.isArrayOf_alike hZ.alike Ar299.2.1) rfl Ar299.2.2 hin299 hat299 (g := (mkF m 189 #[.val (.int p1), .val (.int (7 : Int32)), .val (.ref b7), .val (.ref b149)] [(.int (7 : Int32)), (.ref b7)])) rfl rfl (hb hby at_189) _ kQ) ?_
    show own_Go p e below s _ _ _ (T243.setTop (mkF m 190 #[.val (.int p1), .val (.int (7 : Int32)), .val (.ref b7), .val (.ref b149)] [(.ref a_TransactionRolledBack)]))
    have O301 : Old Z n0 h243 := (((((((((((((((((O140.wr W143 g9).ext E149).wr W155 g153).wr W162 g153).wr W168 g153).wr W174 g153).wr W180 g153).wr W187 g153).wr W193 g153).wr W199 g153).wr W205 g153).wr W212 g153).wr W218 g153).wr W224 g153).wr W230 g153).wr W237 g153).wr W243 g153)
    have F302 : Exa Z h243 a_TransactionRolledBack "com/example/concordat/concordat/TxStatus" := Ex_a_TransactionRolledBack.ext O301.2
    obtain ⟨cq300, kq300, q300a, q300b, q300c⟩ := isOf hZ e243 F302
    obtain ⟨_, _, ⟨T300, L300, k300, n300⟩, -, X300, ⟨Lc300, hQ300, l300, y300, z300⟩, st300⟩ := X243.virtualBack hx (y := (⟨"com/example/concordat/concordat/TxStatus", "isCommitted", "()Z"⟩ : MethodName)) (z := (⟨"com/example/concordat/concordat/TxStatus", "isCommitted", "()Z"⟩ : MethodName)) hown (mvT hZ (hw _ (List.mem_of_getElem? (i := 36) rfl))) (mvT hZ (hw _ (List.mem_of_getElem? (i := 37) rfl))) (notFace_of_selects (args := #[]) (mvT hZ (hw _ (List.mem_of_getElem? (i := 39) rfl)))) (mvT hZ (hw _ (List.mem_of_getElem? (i := 39) rfl))) (mvT hZ (hw _ (List.mem_of_getElem? (i := 38) rfl))) (by decide) (backOf (W := 0) (own_rm_is l Z a0 hw [] a_TransactionRolledBack a_TransactionCommitted a_TransactionCommittedOnePhase h243 n0 Zs248 O301 S_a_TransactionCommitted S_a_TransactionCommittedOnePhase) hZ (hw _ (List.mem_of_getElem? (i := 40) rfl)) (hw _ (List.mem_of_getElem? (i := 4) rfl)) (by decide) (by decide)) q300a q300c (g := (mkF m 190 #[.val (.int p1), .val (.int (7 : Int32)), .val (.ref b7), .val (.ref b149)] [(.ref a_TransactionRolledBack)])) rfl (by rw [hml]; rfl) (Steps.refl _) (argsL := []) (rest := []) (lenOf own_pd0 rfl) rfl (by show 2 * 0 + _ ≤ _; exact Nat.le_of_eq rfl) (hb hby at_190) (fun _ _ => ⟨rfl, e243, (by decide : 2 + 0 ≤ _), (by decide : 30 + 0 ≤ _)⟩)
    dsimp only [Pt.U, Pt.locs, Pt.cells, Pt.slots] at X300 l300 y300 z300 st300 hQ300
    subst l300 y300 z300
    obtain ⟨N300q, rfl, eh300⟩ := hQ300
    have N303 := Fr.app N244 N300q
    refine own_tr st300 ?_
    show own_Go p e below s _ _ _ (T300.setTop (mkF m 193 #[.val (.int p1), .val (.int (7 : Int32)), .val (.ref b7), .val (.ref b149)] [(.int (own_is a_TransactionCommitted a_TransactionCommittedOnePhase a_TransactionRolledBack))]))
    refine own_st (fun _ kQ => XS.aloadN X300.here hx rfl (hb hby at_193) rfl rfl kQ) ?_
    show own_Go p e below s _ _ _ (T300.setTop (mkF m 194 #[.val (.int p1), .val (.int (7 : Int32)), .val (.ref b7), .val (.ref b149)] [(.ref b149), (.int (own_is a_TransactionCommitted a_TransactionCommittedOnePhase a_TransactionRolledBack))]))
    refine own_st (fun _ kQ => XS.iloadN X300.here hx rfl (hb hby at_194) rfl kQ) ?_
    show own_Go p e below s _ _ _ (T300.setTop (mkF m 195 #[.val (.int p1), .val (.int (7 : Int32)), .val (.ref b7), .val (.ref b149)] [(.int (7 : Int32)), (.ref b149), (.int (own_is a_TransactionCommitted a_TransactionCommittedOnePhase a_TransactionRolledBack))]))
    obtain ⟨cl304, Ar304, kc304, S304, Nn304, H304, G304⟩ := id F245
    have hin304 : ¬ ((7 : Int32) < 0 ∨ cl304.slots.size ≤ ((7 : Int32) : Int32).toNatClampNeg) := inb_of S304 (by decide)
    have hat304 : cl304.slots[((7 : Int32) : Int32).toNatClampNeg]? = some (.int (nar .boolean (0 : Int32))) := H304.at hin304 rfl
    refine own_st (fun _ kQ => X300.baloadBooleans hx (j := (7 : Int32)) (v := (.int (nar .boolean (0 : Int32)))) (own_hp eh300 Ar304.1) (State.isArrayOf_alike hZ.alike Ar304.2.1) Ar304.2.2 hin304 hat304 (g := (mkF m 195 #[.val (.int p1), .val (.int (7 : Int32)), .val (.ref b7), .val (.ref b149)] [(.int (7 : Int32)), (.ref b149), (.int (own_is a_TransactionCommitted a_TransactionCommittedOnePhase a_TransactionRolledBack))])) rfl rfl (hb hby at_195) _ kQ) ?_
    show own_Go p e below s _ _ _ (T300.setTop (mkF m 196 #[.val (.int p1), .val (.int (7 : Int32)), .val (.ref b7), .val (.ref b149)] [(.int (nar .boolean (0 : Int32))), (.int (own_is a_TransactionCommitted a_TransactionCommittedOnePhase a_TransactionRolledBack))]))
    refine own_st (fun _ kQ => XS.icmpNo X300.here hx rfl (hb hby at_196) rfl (XT.ii_ne_f (by rw [show nar .boolean (0 : Int32) = 0 from by decide]; simp [own_is, ne_RolledBack_Committed, ne_RolledBack_CommittedOnePhase])) kQ) ?_
    show own_Go p e below s _ _ _ (T300.setTop (mkF m 199 #[.val (.int p1), .val (.int (7 : Int32)), .val (.ref b7), .val (.ref b149)] []))
    refine own_st (fun _ kQ => XT.iconstV X300.here hx rfl (1 : Int32) (hb hby at_199) (by decide) kQ) ?_
    show own_Go p e below s _ _ _ (T300.setTop (mkF m 200 #[.val (.int p1), .val (.int (7 : Int32)), .val (.ref b7), .val (.ref b149)] [(.int (1 : Int32))]))
    refine own_st (fun _ kQ => XS.goto X300.here hx rfl (pc0 := 200) (pc' := 204) rfl (hb hby at_200) (by decide) (by decide) kQ) ?_
    show own_Go p e below s _ _ _ (T300.setTop (mkF m 204 #[.val (.int p1), .val (.int (7 : Int32)), .val (.ref b7), .val (.ref b149)] [(.int (1 : Int32))]))
    refine own_retN X300 hx hlk Bd.returns (t := .boolean) (z' := (1 : Int32)) (by simp) (by decide) (hb hby at_204) (by decide) (by decide) ?_
    rw [eh300]
    exact ⟨N303, rfl⟩
  · rw [hi]
    show own_Go p e below s _ _ _ (T243.setTop (mkF m 187 #[.val (.int p1), .val (.int (8 : Int32)), .val (.ref b7), .val (.ref b149)] []))
    refine own_st (fun _ kQ => XS.aloadN X243.here hx rfl (hb hby at_187) rfl rfl kQ) ?_
    show own_Go p e below s _ _ _ (T243.setTop (mkF m 188 #[.val (.int p1), .val (.int (8 : Int32)), .val (.ref b7), .val (.ref b149)] [(.ref b7)]))
    refine own_st (fun _ kQ => XS.iloadN X243.here hx rfl (hb hby at_188) rfl kQ) ?_
    show own_Go p e below s _ _ _ (T243.setTop (mkF m 189 #[.val (.int p1), .val (.int (8 : Int32)), .val (.ref b7), .val (.ref b149)] [(.int (8 : Int32)), (.ref b7)]))
    have F305 : Arv Z h243 b7 k7 (.object "com/example/concordat/concordat/TxStatus") (15 : Int32) [(.ref a_TransactionActive), (.ref a_TransactionPreparing), (.ref a_TransactionPrepared), (.ref a_TransactionCommitting), (.ref a_TransactionCommitted), (.ref a_TransactionCommittedOnePhase), (.ref a_TransactionRollingBack), (.ref a_TransactionRolledBack), (.ref a_TransactionRollbackOnly), (.ref a_TransactionReadOnly), (.ref a_TransactionHeuristicRollback), (.ref a_TransactionHeuristicCommit), (.ref a_TransactionHeuristicMixed), (.ref a_TransactionHeuristicHazard), (.ref a_TransactionStatusUnknown)] .null := ((((((((((((((((F146.ext E149).other W155 ne152).other W162 ne152).other W168 ne152).other W174 ne152).other W180 ne152).other W187 ne152).other W193 ne152).other W199 ne152).other W205 ne152).other W212 ne152).other W218 ne152).other W224 ne152).other W230 ne152).other W237 ne152).other W243 ne152)
    obtain ⟨cl306, Ar306, kc306, S306, Nn306, H306, G306⟩ := id F305
    have hin306 : ¬ ((8 : Int32) < 0 ∨ cl306.slots.size ≤ ((8 : Int32) : Int32).toNatClampNeg) := inb_of S306 (by decide)
    have hat306 : cl306.slots[((8 : Int32) : Int32).toNatClampNeg]? = some (.ref a_TransactionRollbackOnly) := H306.at hin306 rfl
    refine own_st (fun _ kQ => X243.aaload hx (j := (8 : Int32)) (v := (.ref a_TransactionRollbackOnly)) (own_hp e243 Ar306.1) (State.isArrayOf_alike hZ.alike Ar306.2.1) rfl Ar306.2.2 hin306 hat306 (g := (mkF m 189 #[.val (.int p1), .val (.int (8 : Int32)), .val (.ref b7), .val (.ref b149)] [(.int (8 : Int32)), (.ref b7)])) rfl rfl (hb hby at_189) _ kQ) ?_
    show own_Go p e below s _ _ _ (T243.setTop (mkF m 190 #[.val (.int p1), .val (.int (8 : Int32)), .val (.ref b7), .val (.ref b149)] [(.ref a_TransactionRollbackOnly)]))
    have O308 : Old Z n0 h243 := (((((((((((((((((O140.wr W143 g9).ext E149).wr W155 g153).wr W162 g153).wr W168 g153).wr W174 g153).wr W180 g153).wr W187 g153).wr W193 g153).wr W199 g153).wr W205 g153).wr W212 g153).wr W218 g153).wr W224 g153).wr W230 g153).wr W237 g153).wr W243 g153)
    have F309 : Exa Z h243 a_TransactionRollbackOnly "com/example/concordat/concordat/TxStatus" := Ex_a_TransactionRollbackOnly.ext O308.2
    obtain ⟨cq307, kq307, q307a, q307b, q307c⟩ := isOf hZ e243 F309
    obtain ⟨_, _, ⟨T307, L307, k307, n307⟩, -, X307, ⟨Lc307, hQ307, l307, y307, z307⟩, st307⟩ := X243.virtualBack hx (y := (⟨"com/example/concordat/concordat/TxStatus", "isCommitted", "()Z"⟩ : MethodName)) (z := (⟨"com/example/concordat/concordat/TxStatus", "isCommitted", "()Z"⟩ : MethodName)) hown (mvT hZ (hw _ (List.mem_of_getElem? (i := 36) rfl))) (mvT hZ (hw _ (List.mem_of_getElem? (i := 37) rfl))) (notFace_of_selects (args := #[]) (mvT hZ (hw _ (List.mem_of_getElem? (i := 39) rfl)))) (mvT hZ (hw _ (List.mem_of_getElem? (i := 39) rfl))) (mvT hZ (hw _ (List.mem_of_getElem? (i := 38) rfl))) (by decide) (backOf (W := 0) (own_rm_is l Z a0 hw [] a_TransactionRollbackOnly a_TransactionCommitted a_TransactionCommittedOnePhase h243 n0 Zs248 O308 S_a_TransactionCommitted S_a_TransactionCommittedOnePhase) hZ (hw _ (List.mem_of_getElem? (i := 40) rfl)) (hw _ (List.mem_of_getElem? (i := 4) rfl)) (by decide) (by decide)) q307a q307c (g := (mkF m 190 #[.val (.int p1), .val (.int (8 : Int32)), .val (.ref b7), .val (.ref b149)] [(.ref a_TransactionRollbackOnly)])) rfl (by rw [hml]; rfl) (Steps.refl _) (argsL := []) (rest := []) (lenOf own_pd0 rfl) rfl (by show 2 * 0 + _ ≤ _; exact Nat.le_of_eq rfl) (hb hby at_190) (fun _ _ => ⟨rfl, e243, (by decide : 2 + 0 ≤ _), (by decide : 30 + 0 ≤ _)⟩)
    dsimp only [Pt.U, Pt.locs, Pt.cells, Pt.slots] at X307 l307 y307 z307 st307 hQ307
    subst l307 y307 z307
    obtain ⟨N307q, rfl, eh307⟩ := hQ307
    have N310 := Fr.app N244 N307q
    refine own_tr st307 ?_
    show own_Go p e below s _ _ _ (T307.setTop (mkF m 193 #[.val (.int p1), .val (.int (8 : Int32)), .val (.ref b7), .val (.ref b149)] [(.int (own_is a_TransactionCommitted a_TransactionCommittedOnePhase a_TransactionRollbackOnly))]))
    refine own_st (fun _ kQ => XS.aloadN X307.here hx rfl (hb hby at_193) rfl rfl kQ) ?_
    show own_Go p e below s _ _ _ (T307.setTop (mkF m 194 #[.val (.int p1), .val (.int (8 : Int32)), .val (.ref b7), .val (.ref b149)] [(.ref b149), (.int (own_is a_TransactionCommitted a_TransactionCommittedOnePhase a_TransactionRollbackOnly))]))
    refine own_st (fun _ kQ => XS.iloadN X307.here hx rfl (hb hby at_194) rfl kQ) ?_
    show own_Go p e below s _ _ _ (T307.setTop (mkF m 195 #[.val (.int p1), .val (.int (8 : Int32)), .val (.ref b7), .val (.ref b149)] [(.int (8 : Int32)), (.ref b149), (.int (own_is a_TransactionCommitted a_TransactionCommittedOnePhase a_TransactionRollbackOnly))]))
    obtain ⟨cl311, Ar311, kc311, S311, Nn311, H311, G311⟩ := id F245
    have hin311 : ¬ ((8 : Int32) < 0 ∨ cl311.slots.size ≤ ((8 : Int32) : Int32).toNatClampNeg) := inb_of S311 (by decide)
    have hat311 : cl311.slots[((8 : Int32) : Int32).toNatClampNeg]? = some (.int (nar .boolean (0 : Int32))) := H311.at hin311 rfl
    refine own_st (fun _ kQ => X307.baloadBooleans hx (j := (8 : Int32)) (v := (.int (nar .boolean (0 : Int32)))) (own_hp eh307 Ar311.1) (State.isArrayOf_alike hZ.alike Ar311.2.1) Ar311.2.2 hin311 hat311 (g := (mkF m 195 #[.val (.int p1), .val (.int (8 : Int32)), .val (.ref b7), .val (.ref b149)] [(.int (8 : Int32)), (.ref b149), (.int (own_is a_TransactionCommitted a_TransactionCommittedOnePhase a_TransactionRollbackOnly))])) rfl rfl (hb hby at_195) _ kQ) ?_
    show own_Go p e below s _ _ _ (T307.setTop (mkF m 196 #[.val (.int p1), .val (.int (8 : Int32)), .val (.ref b7), .val (.ref b149)] [(.int (nar .boolean (0 : Int32))), (.int (own_is a_TransactionCommitted a_TransactionCommittedOnePhase a_TransactionRollbackOnly))]))
    refine own_st (fun _ kQ => XS.icmpNo X307.here hx rfl (hb hby at_196) rfl (XT.ii_ne_f (by rw [show nar .boolean (0 : Int32) = 0 from by decide]; simp [own_is, ne_RollbackOnly_Committed, ne_RollbackOnly_CommittedOnePhase])) kQ) ?_
    show own_Go p e below s _ _ _ (T307.setTop (mkF m 199 #[.val (.int p1), .val (.int (8 : Int32)), .val (.ref b7), .val (.ref b149)] []))
    refine own_st (fun _ kQ => XT.iconstV X307.here hx rfl (1 : Int32) (hb hby at_199) (by decide) kQ) ?_
    show own_Go p e below s _ _ _ (T307.setTop (mkF m 200 #[.val (.int p1), .val (.int (8 : Int32)), .val (.ref b7), .val (.ref b149)] [(.int (1 : Int32))]))
    refine own_st (fun _ kQ => XS.goto X307.here hx rfl (pc0 := 200) (pc' := 204) rfl (hb hby at_200) (by decide) (by decide) kQ) ?_
    show own_Go p e below s _ _ _ (T307.setTop (mkF m 204 #[.val (.int p1), .val (.int (8 : Int32)), .val (.ref b7), .val (.ref b149)] [(.int (1 : Int32))]))
    refine own_retN X307 hx hlk Bd.returns (t := .boolean) (z' := (1 : Int32)) (by simp) (by decide) (hb hby at_204) (by decide) (by decide) ?_
    rw [eh307]
    exact ⟨N310, rfl⟩
  · rw [hi]
    show own_Go p e below s _ _ _ (T243.setTop (mkF m 187 #[.val (.int p1), .val (.int (9 : Int32)), .val (.ref b7), .val (.ref b149)] []))
    refine own_st (fun _ kQ => XS.aloadN X243.here hx rfl (hb hby at_187) rfl rfl kQ) ?_
    show own_Go p e below s _ _ _ (T243.setTop (mkF m 188 #[.val (.int p1), .val (.int (9 : Int32)), .val (.ref b7), .val (.ref b149)] [(.ref b7)]))
    refine own_st (fun _ kQ => XS.iloadN X243.here hx rfl (hb hby at_188) rfl kQ) ?_
    show own_Go p e below s _ _ _ (T243.setTop (mkF m 189 #[.val (.int p1), .val (.int (9 : Int32)), .val (.ref b7), .val (.ref b149)] [(.int (9 : Int32)), (.ref b7)]))
    have F312 : Arv Z h243 b7 k7 (.object "com/example/concordat/concordat/TxStatus") (15 : Int32) [(.ref a_TransactionActive), (.ref a_TransactionPreparing), (.ref a_TransactionPrepared), (.ref a_TransactionCommitting), (.ref a_TransactionCommitted), (.ref a_TransactionCommittedOnePhase), (.ref a_TransactionRollingBack), (.ref a_TransactionRolledBack), (.ref a_TransactionRollbackOnly), (.ref a_TransactionReadOnly), (.ref a_TransactionHeuristicRollback), (.ref a_TransactionHeuristicCommit), (.ref a_TransactionHeuristicMixed), (.ref a_TransactionHeuristicHazard), (.ref a_TransactionStatusUnknown)] .null := ((((((((((((((((F146.ext E149).other W155 ne152).other W162 ne152).other W168 ne152).other W174 ne152).other W180 ne152).other W187 ne152).other W193 ne152).other W199 ne152).other W205 ne152).other W212 ne152).other W218 ne152).other W224 ne152).other W230 ne152).other W237 ne152).other W243 ne152)
    obtain ⟨cl313, Ar313, kc313, S313, Nn313, H313, G313⟩ := id F312
    have hin313 : ¬ ((9 : Int32) < 0 ∨ cl313.slots.size ≤ ((9 : Int32) : Int32).toNatClampNeg) := inb_of S313 (by decide)
    have hat313 : cl313.slots[((9 : Int32) : Int32).toNatClampNeg]? = some (.ref a_TransactionReadOnly) := H313.at hin313 rfl
    refine own_st (fun _ kQ => X243.aaload hx (j := (9 : Int32)) (v := (.ref a_TransactionReadOnly)) (own_hp e243 Ar313.1) (State.isArrayOf_alike hZ.alike Ar313.2.1) rfl Ar313.2.2 hin313 hat313 (g := (mkF m 189 #[.val (.int p1), .val (.int (9 : Int32)), .val (.ref b7), .val (.ref b149)] [(.int (9 : Int32)), (.ref b7)])) rfl rfl (hb hby at_189) _ kQ) ?_
    show own_Go p e below s _ _ _ (T243.setTop (mkF m 190 #[.val (.int p1), .val (.int (9 : Int32)), .val (.ref b7), .val (.ref b149)] [(.ref a_TransactionReadOnly)]))
    have O315 : Old Z n0 h243 := (((((((((((((((((O140.wr W143 g9).ext E149).wr W155 g153).wr W162 g153).wr W168 g153).wr W174 g153).wr W180 g153).wr W187 g153).wr W193 g153).wr W199 g153).wr W205 g153).wr W212 g153).wr W218 g153).wr W224 g153).wr W230 g153).wr W237 g153).wr W243 g153)
    have F316 : Exa Z h243 a_TransactionReadOnly "com/example/concordat/concordat/TxStatus" := Ex_a_TransactionReadOnly.ext O315.2
    obtain ⟨cq314, kq314, q314a, q314b, q314c⟩ := isOf hZ e243 F316
    obtain ⟨_, _, ⟨T314, L314, k314, n314⟩, -, X314, ⟨Lc314, hQ314, l314, y314, z314⟩, st314⟩ := X243.virtualBack hx (y := (⟨"com/example/concordat/concordat/TxStatus", "isCommitted", "()Z"⟩ : MethodName)) (z := (⟨"com/example/concordat/concordat/TxStatus", "isCommitted", "()Z"⟩ : MethodName)) hown (mvT hZ (hw _ (List.mem_of_getElem? (i := 36) rfl))) (mvT hZ (hw _ (List.mem_of_getElem? (i := 37) rfl))) (notFace_of_selects (args := #[]) (mvT hZ (hw _ (List.mem_of_getElem? (i := 39) rfl)))) (mvT hZ (hw _ (List.mem_of_getElem? (i := 39) rfl))) (mvT hZ (hw _ (List.mem_of_getElem? (i := 38) rfl))) (by decide) (backOf (W := 0) (own_rm_is l Z a0 hw [] a_TransactionReadOnly a_TransactionCommitted a_TransactionCommittedOnePhase h243 n0 Zs248 O315 S_a_TransactionCommitted S_a_TransactionCommittedOnePhase) hZ (hw _ (List.mem_of_getElem? (i := 40) rfl)) (hw _ (List.mem_of_getElem? (i := 4) rfl)) (by decide) (by decide)) q314a q314c (g := (mkF m 190 #[.val (.int p1), .val (.int (9 : Int32)), .val (.ref b7), .val (.ref b149)] [(.ref a_TransactionReadOnly)])) rfl (by rw [hml]; rfl) (Steps.refl _) (argsL := []) (rest := []) (lenOf own_pd0 rfl) rfl (by show 2 * 0 + _ ≤ _; exact Nat.le_of_eq rfl) (hb hby at_190) (fun _ _ => ⟨rfl, e243, (by decide : 2 + 0 ≤ _), (by decide : 30 + 0 ≤ _)⟩)
    dsimp only [Pt.U, Pt.locs, Pt.cells, Pt.slots] at X314 l314 y314 z314 st314 hQ314
    subst l314 y314 z314
    obtain ⟨N314q, rfl, eh314⟩ := hQ314
    have N317 := Fr.app N244 N314q
    refine own_tr st314 ?_
    show own_Go p e below s _ _ _ (T314.setTop (mkF m 193 #[.val (.int p1), .val (.int (9 : Int32)), .val (.ref b7), .val (.ref b149)] [(.int (own_is a_TransactionCommitted a_TransactionCommittedOnePhase a_TransactionReadOnly))]))
    refine own_st (fun _ kQ => XS.aloadN X314.here hx rfl (hb hby at_193) rfl rfl kQ) ?_
    show own_Go p e below s _ _ _ (T314.setTop (mkF m 194 #[.val (.int p1), .val (.int (9 : Int32)), .val (.ref b7), .val (.ref b149)] [(.ref b149), (.int (own_is a_TransactionCommitted a_TransactionCommittedOnePhase a_TransactionReadOnly))]))
    refine own_st (fun _ kQ => XS.iloadN X314.here hx rfl (hb hby at_194) rfl kQ) ?_
    show own_Go p e below s _ _ _ (T314.setTop (mkF m 195 #[.val (.int p1), .val (.int (9 : Int32)), .val (.ref b7), .val (.ref b149)] [(.int (9 : Int32)), (.ref b149), (.int (own_is a_TransactionCommitted a_TransactionCommittedOnePhase a_TransactionReadOnly))]))
    obtain ⟨cl318, Ar318, kc318, S318, Nn318, H318, G318⟩ := id F245
    have hin318 : ¬ ((9 : Int32) < 0 ∨ cl318.slots.size ≤ ((9 : Int32) : Int32).toNatClampNeg) := inb_of S318 (by decide)
    have hat318 : cl318.slots[((9 : Int32) : Int32).toNatClampNeg]? = some (.int (nar .boolean (0 : Int32))) := H318.at hin318 rfl
    refine own_st (fun _ kQ => X314.baloadBooleans hx (j := (9 : Int32)) (v := (.int (nar .boolean (0 : Int32)))) (own_hp eh314 Ar318.1) (State.isArrayOf_alike hZ.alike Ar318.2.1) Ar318.2.2 hin318 hat318 (g := (mkF m 195 #[.val (.int p1), .val (.int (9 : Int32)), .val (.ref b7), .val (.ref b149)] [(.int (9 : Int32)), (.ref b149), (.int (own_is a_TransactionCommitted a_TransactionCommittedOnePhase a_TransactionReadOnly))])) rfl rfl (hb hby at_195) _ kQ) ?_
    show own_Go p e below s _ _ _ (T314.setTop (mkF m 196 #[.val (.int p1), .val (.int (9 : Int32)), .val (.ref b7), .val (.ref b149)] [(.int (nar .boolean (0 : Int32))), (.int (own_is a_TransactionCommitted a_TransactionCommittedOnePhase a_TransactionReadOnly))]))
    refine own_st (fun _ kQ => XS.icmpNo X314.here hx rfl (hb hby at_196) rfl (XT.ii_ne_f (by rw [show nar .boolean (0 : Int32) = 0 from by decide]; simp [own_is, ne_ReadOnly_Committed, ne_ReadOnly_CommittedOnePhase])) kQ) ?_
    show own_Go p e below s _ _ _ (T314.setTop (mkF m 199 #[.val (.int p1), .val (.int (9 : Int32)), .val (.ref b7), .val (.ref b149)] []))
    refine own_st (fun _ kQ => XT.iconstV X314.here hx rfl (1 : Int32) (hb hby at_199) (by decide) kQ) ?_
    show own_Go p e below s _ _ _ (T314.setTop (mkF m 200 #[.val (.int p1), .val (.int (9 : Int32)), .val (.ref b7), .val (.ref b149)] [(.int (1 : Int32))]))
    refine own_st (fun _ kQ => XS.goto X314.here hx rfl (pc0 := 200) (pc' := 204) rfl (hb hby at_200) (by decide) (by decide) kQ) ?_
    show own_Go p e below s _ _ _ (T314.setTop (mkF m 204 #[.val (.int p1), .val (.int (9 : Int32)), .val (.ref b7), .val (.ref b149)] [(.int (1 : Int32))]))
    refine own_retN X314 hx hlk Bd.returns (t := .boolean) (z' := (1 : Int32)) (by simp) (by decide) (hb hby at_204) (by decide) (by decide) ?_
    rw [eh314]
    exact ⟨N317, rfl⟩
  · rw [hi]
    show own_Go p e below s _ _ _ (T243.setTop (mkF m 187 #[.val (.int p1), .val (.int (10 : Int32)), .val (.ref b7), .val (.ref b149)] []))
    refine own_st (fun _ kQ => XS.aloadN X243.here hx rfl (hb hby at_187) rfl rfl kQ) ?_
    show own_Go p e below s _ _ _ (T243.setTop (mkF m 188 #[.val (.int p1), .val (.int (10 : Int32)), .val (.ref b7), .val (.ref b149)] [(.ref b7)]))
    refine own_st (fun _ kQ => XS.iloadN X243.here hx rfl (hb hby at_188) rfl kQ) ?_
    show own_Go p e below s _ _ _ (T243.setTop (mkF m 189 #[.val (.int p1), .val (.int (10 : Int32)), .val (.ref b7), .val (.ref b149)] [(.int (10 : Int32)), (.ref b7)]))
    have F319 : Arv Z h243 b7 k7 (.object "com/example/concordat/concordat/TxStatus") (15 : Int32) [(.ref a_TransactionActive), (.ref a_TransactionPreparing), (.ref a_TransactionPrepared), (.ref a_TransactionCommitting), (.ref a_TransactionCommitted), (.ref a_TransactionCommittedOnePhase), (.ref a_TransactionRollingBack), (.ref a_TransactionRolledBack), (.ref a_TransactionRollbackOnly), (.ref a_TransactionReadOnly), (.ref a_TransactionHeuristicRollback), (.ref a_TransactionHeuristicCommit), (.ref a_TransactionHeuristicMixed), (.ref a_TransactionHeuristicHazard), (.ref a_TransactionStatusUnknown)] .null := ((((((((((((((((F146.ext E149).other W155 ne152).other W162 ne152).other W168 ne152).other W174 ne152).other W180 ne152).other W187 ne152).other W193 ne152).other W199 ne152).other W205 ne152).other W212 ne152).other W218 ne152).other W224 ne152).other W230 ne152).other W237 ne152).other W243 ne152)
    obtain ⟨cl320, Ar320, kc320, S320, Nn320, H320, G320⟩ := id F319
    have hin320 : ¬ ((10 : Int32) < 0 ∨ cl320.slots.size ≤ ((10 : Int32) : Int32).toNatClampNeg) := inb_of S320 (by decide)
    have hat320 : cl320.slots[((10 : Int32) : Int32).toNatClampNeg]? = some (.ref a_TransactionHeuristicRollback) := H320.at hin320 rfl
    refine own_st (fun _ kQ => X243.aaload hx (j := (10 : Int32)) (v := (.ref a_TransactionHeuristicRollback)) (own_hp e243 Ar320.1) (State.isArrayOf_alike hZ.alike Ar320.2.1) rfl Ar320.2.2 hin320 hat320 (g := (mkF m 189 #[.val (.int p1), .val (.int (10 : Int32)), .val (.ref b7), .val (.ref b149)] [(.int (10 : Int32)), (.ref b7)])) rfl rfl (hb hby at_189) _ kQ) ?_
    show own_Go p e below s _ _ _ (T243.setTop (mkF m 190 #[.val (.int p1), .val (.int (10 : Int32)), .val (.ref b7), .val (.ref b149)] [(.ref a_TransactionHeuristicRollback)]))
    have O322 : Old Z n0 h243 := (((((((((((((((((O140.wr W143 g9).ext E149).wr W155 g153).wr W162 g153).wr W168 g153).wr W174 g153).wr W180 g153).wr W187 g153).wr W193 g153).wr W199 g153).wr W205 g153).wr W212 g153).wr W218 g153).wr W224 g153).wr W230 g153).wr W237 g153).wr W243 g153)
    have F323 : Exa Z h243 a_TransactionHeuristicRollback "com/example/concordat/concordat/TxStatus" := Ex_a_TransactionHeuristicRollback.ext O322.2
    obtain ⟨cq321, kq321, q321a, q321b, q321c⟩ := isOf hZ e243 F323
    obtain ⟨_, _, ⟨T321, L321, k321, n321⟩, -, X321, ⟨Lc321, hQ321, l321, y321, z321⟩, st321⟩ := X243.virtualBack hx (y := (⟨"com/example/concordat/concordat/TxStatus", "isCommitted", "()Z"⟩ : MethodName)) (z := (⟨"com/example/concordat/concordat/TxStatus", "isCommitted", "()Z"⟩ : MethodName)) hown (mvT hZ (hw _ (List.mem_of_getElem? (i := 36) rfl))) (mvT hZ (hw _ (List.mem_of_getElem? (i := 37) rfl))) (notFace_of_selects (args := #[]) (mvT hZ (hw _ (List.mem_of_getElem? (i := 39) rfl)))) (mvT hZ (hw _ (List.mem_of_getElem? (i := 39) rfl))) (mvT hZ (hw _ (List.mem_of_getElem? (i := 38) rfl))) (by decide) (backOf (W := 0) (own_rm_is l Z a0 hw [] a_TransactionHeuristicRollback a_TransactionCommitted a_TransactionCommittedOnePhase h243 n0 Zs248 O322 S_a_TransactionCommitted S_a_TransactionCommittedOnePhase) hZ (hw _ (List.mem_of_getElem? (i := 40) rfl)) (hw _ (List.mem_of_getElem? (i := 4) rfl)) (by decide) (by decide)) q321a q321c (g := (mkF m 190 #[.val (.int p1), .val (.int (10 : Int32)), .val (.ref b7), .val (.ref b149)] [(.ref a_TransactionHeuristicRollback)])) rfl (by rw [hml]; rfl) (Steps.refl _) (argsL := []) (rest := []) (lenOf own_pd0 rfl) rfl (by show 2 * 0 + _ ≤ _; exact Nat.le_of_eq rfl) (hb hby at_190) (fun _ _ => ⟨rfl, e243, (by decide : 2 + 0 ≤ _), (by decide : 30 + 0 ≤ _)⟩)
    dsimp only [Pt.U, Pt.locs, Pt.cells, Pt.slots] at X321 l321 y321 z321 st321 hQ321
    subst l321 y321 z321
    obtain ⟨N321q, rfl, eh321⟩ := hQ321
    have N324 := Fr.app N244 N321q
    refine own_tr st321 ?_
    show own_Go p e below s _ _ _ (T321.setTop (mkF m 193 #[.val (.int p1), .val (.int (10 : Int32)), .val (.ref b7), .val (.ref b149)] [(.int (own_is a_TransactionCommitted a_TransactionCommittedOnePhase a_TransactionHeuristicRollback))]))
    refine own_st (fun _ kQ => XS.aloadN X321.here hx rfl (hb hby at_193) rfl rfl kQ) ?_
    show own_Go p e below s _ _ _ (T321.setTop (mkF m 194 #[.val (.int p1), .val (.int (10 : Int32)), .val (.ref b7), .val (.ref b149)] [(.ref b149), (.int (own_is a_TransactionCommitted a_TransactionCommittedOnePhase a_TransactionHeuristicRollback))]))
    refine own_st (fun _ kQ => XS.iloadN X321.here hx rfl (hb hby at_194) rfl kQ) ?_
    show own_Go p e below s _ _ _ (T321.setTop (mkF m 195 #[.val (.int p1), .val (.int (10 : Int32)), .val (.ref b7), .val (.ref b149)] [(.int (10 : Int32)), (.ref b149), (.int (own_is a_TransactionCommitted a_TransactionCommittedOnePhase a_TransactionHeuristicRollback))]))
    obtain ⟨cl325, Ar325, kc325, S325, Nn325, H325, G325⟩ := id F245
    have hin325 : ¬ ((10 : Int32) < 0 ∨ cl325.slots.size ≤ ((10 : Int32) : Int32).toNatClampNeg) := inb_of S325 (by decide)
    have hat325 : cl325.slots[((10 : Int32) : Int32).toNatClampNeg]? = some (.int (nar .boolean (0 : Int32))) := H325.at hin325 rfl
    refine own_st (fun _ kQ => X321.baloadBooleans hx (j := (10 : Int32)) (v := (.int (nar .boolean (0 : Int32)))) (own_hp eh321 Ar325.1) (State.isArrayOf_alike hZ.alike Ar325.2.1) Ar325.2.2 hin325 hat325 (g := (mkF m 195 #[.val (.int p1), .val (.int (10 : Int32)), .val (.ref b7), .val (.ref b149)] [(.int (10 : Int32)), (.ref b149), (.int (own_is a_TransactionCommitted a_TransactionCommittedOnePhase a_TransactionHeuristicRollback))])) rfl rfl (hb hby at_195) _ kQ) ?_
    show own_Go p e below s _ _ _ (T321.setTop (mkF m 196 #[.val (.int p1), .val (.int (10 : Int32)), .val (.ref b7), .val (.ref b149)] [(.int (nar .boolean (0 : Int32))), (.int (own_is a_TransactionCommitted a_TransactionCommittedOnePhase a_TransactionHeuristicRollback))]))
    refine own_st (fun _ kQ => XS.icmpNo X321.here hx rfl (hb hby at_196) rfl (XT.ii_ne_f (by rw [show nar .boolean (0 : Int32) = 0 from by decide]; simp [own_is, ne_HeuristicRollback_Committed, ne_HeuristicRollback_CommittedOnePhase])) kQ) ?_
    show own_Go p e below s _ _ _ (T321.setTop (mkF m 199 #[.val (.int p1), .val (.int (10 : Int32)), .val (.ref b7), .val (.ref b149)] []))
    refine own_st (fun _ kQ => XT.iconstV X321.here hx rfl (1 : Int32) (hb hby at_199) (by decide) kQ) ?_
    show own_Go p e below s _ _ _ (T321.setTop (mkF m 200 #[.val (.int p1), .val (.int (10 : Int32)), .val (.ref b7), .val (.ref b149)] [(.int (1 : Int32))]))
    refine own_st (fun _ kQ => XS.goto X321.here hx rfl (pc0 := 200) (pc' := 204) rfl (hb hby at_200) (by decide) (by decide) kQ) ?_
    show own_Go p e below s _ _ _ (T321.setTop (mkF m 204 #[.val (.int p1), .val (.int (10 : Int32)), .val (.ref b7), .val (.ref b149)] [(.int (1 : Int32))]))
    refine own_retN X321 hx hlk Bd.returns (t := .boolean) (z' := (1 : Int32)) (by simp) (by decide) (hb hby at_204) (by decide) (by decide) ?_
    rw [eh321]
    exact ⟨N324, rfl⟩
  · rw [hi]
    show own_Go p e below s _ _ _ (T243.setTop (mkF m 187 #[.val (.int p1), .val (.int (11 : Int32)), .val (.ref b7), .val (.ref b149)] []))
    refine own_st (fun _ kQ => XS.aloadN X243.here hx rfl (hb hby at_187) rfl rfl kQ) ?_
    show own_Go p e below s _ _ _ (T243.setTop (mkF m 188 #[.val (.int p1), .val (.int (11 : Int32)), .val (.ref b7), .val (.ref b149)] [(.ref b7)]))
    refine own_st (fun _ kQ => XS.iloadN X243.here hx rfl (hb hby at_188) rfl kQ) ?_
    show own_Go p e below s _ _ _ (T243.setTop (mkF m 189 #[.val (.int p1), .val (.int (11 : Int32)), .val (.ref b7), .val (.ref b149)] [(.int (11 : Int32)), (.ref b7)]))
    have F326 : Arv Z h243 b7 k7 (.object "com/example/concordat/concordat/TxStatus") (15 : Int32) [(.ref a_TransactionActive), (.ref a_TransactionPreparing), (.ref a_TransactionPrepared), (.ref a_TransactionCommitting), (.ref a_TransactionCommitted), (.ref a_TransactionCommittedOnePhase), (.ref a_TransactionRollingBack), (.ref a_TransactionRolledBack), (.ref a_TransactionRollbackOnly), (.ref a_TransactionReadOnly), (.ref a_TransactionHeuristicRollback), (.ref a_TransactionHeuristicCommit), (.ref a_TransactionHeuristicMixed), (.ref a_TransactionHeuristicHazard), (.ref a_TransactionStatusUnknown)] .null := ((((((((((((((((F146.ext E149).other W155 ne152).other W162 ne152).other W168 ne152).other W174 ne152).other W180 ne152).other W187 ne152).other W193 ne152).other W199 ne152).other W205 ne152).other W212 ne152).other W218 ne152).other W224 ne152).other W230 ne152).other W237 ne152).other W243 ne152)
    obtain ⟨cl327, Ar327, kc327, S327, Nn327, H327, G327⟩ := id F326
    have hin327 : ¬ ((11 : Int32) < 0 ∨ cl327.slots.size ≤ ((11 : Int32) : Int32).toNatClampNeg) := inb_of S327 (by decide)
    have hat327 : cl327.slots[((11 : Int32) : Int32).toNatClampNeg]? = some (.ref a_TransactionHeuristicCommit) := H327.at hin327 rfl
    refine own_st (fun _ kQ => X243.aaload hx (j := (11 : Int32)) (v := (.ref a_TransactionHeuristicCommit)) (own_hp e243 Ar327.1) (State.isArrayOf_alike hZ.alike Ar327.2.1) rfl Ar327.2.2 hin327 hat327 (g := (mkF m 189 #[.val (.int p1), .val (.int (11 : Int32)), .val (.ref b7), .val (.ref b149)] [(.int (11 : Int32)), (.ref b7)])) rfl rfl (hb hby at_189) _ kQ) ?_
    show own_Go p e below s _ _ _ (T243.setTop (mkF m 190 #[.val (.int p1), .val (.int (11 : Int32)), .val (.ref b7), .val (.ref b149)] [(.ref a_TransactionHeuristicCommit)]))
    have O329 : Old Z n0 h243 := (((((((((((((((((O140.wr W143 g9).ext E149).wr W155 g153).wr W162 g153).wr W168 g153).wr W174 g153).wr W180 g153).wr W187 g153).wr W193 g153).wr W199 g153).wr W205 g153).wr W212 g153).wr W218 g153).wr W224 g153).wr W230 g153).wr W237 g153).wr W243 g153)
    have F330 : Exa Z h243 a_TransactionHeuristicCommit "com/example/concordat/concordat/TxStatus" := Ex_a_TransactionHeuristicCommit.ext O329.2
    obtain ⟨cq328, kq328, q328a, q328b, q328c⟩ := isOf hZ e243 F330
    obtain ⟨_, _, ⟨T328, L328, k328, n328⟩, -, X328, ⟨Lc328, hQ328, l328, y328, z328⟩, st328⟩ := X243.virtualBack hx (y := (⟨"com/example/concordat/concordat/TxStatus", "isCommitted", "()Z"⟩ : MethodName)) (z := (⟨"com/example/concordat/concordat/TxStatus", "isCommitted", "()Z"⟩ : MethodName)) hown (mvT hZ (hw _ (List.mem_of_getElem? (i := 36) rfl))) (mvT hZ (hw _ (List.mem_of_getElem? (i := 37) rfl))) (notFace_of_selects (args := #[]) (mvT hZ (hw _ (List.mem_of_getElem? (i := 39) rfl)))) (mvT hZ (hw _ (List.mem_of_getElem? (i := 39) rfl))) (mvT hZ (hw _ (List.mem_of_getElem? (i := 38) rfl))) (by decide) (backOf (W := 0) (own_rm_is l Z a0 hw [] a_TransactionHeuristicCommit a_TransactionCommitted a_TransactionCommittedOnePhase h243 n0 Zs248 O329 S_a_TransactionCommitted S_a_TransactionCommittedOnePhase) hZ (hw _ (List.mem_of_getElem? (i := 40) rfl)) (hw _ (List.mem_of_getElem? (i := 4) rfl)) (by decide) (by decide)) q328a q328c (g := (mkF m 190 #[.val (.int p1), .val (.int (11 : Int32)), .val (.ref b7), .val (.ref b149)] [(.ref a_TransactionHeuristicCommit)])) rfl (by rw [hml]; rfl) (Steps.refl _) (argsL := []) (rest := []) (lenOf own_pd0 rfl) rfl (by show 2 * 0 + _ ≤ _; exact Nat.le_of_eq rfl) (hb hby at_190) (fun _ _ => ⟨rfl, e243, (by decide : 2 + 0 ≤ _), (by decide : 30 + 0 ≤ _)⟩)
    dsimp only [Pt.U, Pt.locs, Pt.cells, Pt.slots] at X328 l328 y328 z328 st328 hQ328
    subst l328 y328 z328
    obtain ⟨N328q, rfl, eh328⟩ := hQ328
    have N331 := Fr.app N244 N328q
    refine own_tr st328 ?_
    show own_Go p e below s _ _ _ (T328.setTop (mkF m 193 #[.val (.int p1), .val (.int (11 : Int32)), .val (.ref b7), .val (.ref b149)] [(.int (own_is a_TransactionCommitted a_TransactionCommittedOnePhase a_TransactionHeuristicCommit))]))
    refine own_st (fun _ kQ => XS.aloadN X328.here hx rfl (hb hby at_193) rfl rfl kQ) ?_
    show own_Go p e below s _ _ _ (T328.setTop (mkF m 194 #[.val (.int p1), .val (.int (11 : Int32)), .val (.ref b7), .val (.ref b149)] [(.ref b149), (.int (own_is a_TransactionCommitted a_TransactionCommittedOnePhase a_TransactionHeuristicCommit))]))
    refine own_st (fun _ kQ => XS.iloadN X328.here hx rfl (hb hby at_194) rfl kQ) ?_
    show own_Go p e below s _ _ _ (T328.setTop (mkF m 195 #[.val (.int p1), .val (.int (11 : Int32)), .val (.ref b7), .val (.ref b149)] [(.int (11 : Int32)), (.ref b149), (.int (own_is a_TransactionCommitted a_TransactionCommittedOnePhase a_TransactionHeuristicCommit))]))
    obtain ⟨cl332, Ar332, kc332, S332, Nn332, H332, G332⟩ := id F245
    have hin332 : ¬ ((11 : Int32) < 0 ∨ cl332.slots.size ≤ ((11 : Int32) : Int32).toNatClampNeg) := inb_of S332 (by decide)
    have hat332 : cl332.slots[((11 : Int32) : Int32).toNatClampNeg]? = some (.int (nar .boolean (0 : Int32))) := H332.at hin332 rfl
    refine own_st (fun _ kQ => X328.baloadBooleans hx (j := (11 : Int32)) (v := (.int (nar .boolean (0 : Int32)))) (own_hp eh328 Ar332.1) (State.isArrayOf_alike hZ.alike Ar332.2.1) Ar332.2.2 hin332 hat332 (g := (mkF m 195 #[.val (.int p1), .val (.int (11 : Int32)), .val (.ref b7), .val (.ref b149)] [(.int (11 : Int32)), (.ref b149), (.int (own_is a_TransactionCommitted a_TransactionCommittedOnePhase a_TransactionHeuristicCommit))])) rfl rfl (hb hby at_195) _ kQ) ?_
    show own_Go p e below s _ _ _ (T328.setTop (mkF m 196 #[.val (.int p1), .val (.int (11 : Int32)), .val (.ref b7), .val (.ref b149)] [(.int (nar .boolean (0 : Int32))), (.int (own_is a_TransactionCommitted a_TransactionCommittedOnePhase a_TransactionHeuristicCommit))]))
    refine own_st (fun _ kQ => XS.icmpNo X328.here hx rfl (hb hby at_196) rfl (XT.ii_ne_f (by rw [show nar .boolean (0 : Int32) = 0 from by decide]; simp [own_is, ne_HeuristicCommit_Committed, ne_HeuristicCommit_CommittedOnePhase])) kQ) ?_
    show own_Go p e below s _ _ _ (T328.setTop (mkF m 199 #[.val (.int p1), .val (.int (11 : Int32)), .val (.ref b7), .val (.ref b149)] []))
    refine own_st (fun _ kQ => XT.iconstV X328.here hx rfl (1 : Int32) (hb hby at_199) (by decide) kQ) ?_
    show own_Go p e below s _ _ _ (T328.setTop (mkF m 200 #[.val (.int p1), .val (.int (11 : Int32)), .val (.ref b7), .val (.ref b149)] [(.int (1 : Int32))]))
    refine own_st (fun _ kQ => XS.goto X328.here hx rfl (pc0 := 200) (pc' := 204) rfl (hb hby at_200) (by decide) (by decide) kQ) ?_
    show own_Go p e below s _ _ _ (T328.setTop (mkF m 204 #[.val (.int p1), .val (.int (11 : Int32)), .val (.ref b7), .val (.ref b149)] [(.int (1 : Int32))]))
    refine own_retN X328 hx hlk Bd.returns (t := .boolean) (z' := (1 : Int32)) (by simp) (by decide) (hb hby at_204) (by decide) (by decide) ?_
    rw [eh328]
    exact ⟨N331, rfl⟩
  · rw [hi]
    show own_Go p e below s _ _ _ (T243.setTop (mkF m 187 #[.val (.int p1), .val (.int (12 : Int32)), .val (.ref b7), .val (.ref b149)] []))
    refine own_st (fun _ kQ => XS.aloadN X243.here hx rfl (hb hby at_187) rfl rfl kQ) ?_
    show own_Go p e below s _ _ _ (T243.setTop (mkF m 188 #[.val (.int p1), .val (.int (12 : Int32)), .val (.ref b7), .val (.ref b149)] [(.ref b7)]))
    refine own_st (fun _ kQ => XS.iloadN X243.here hx rfl (hb hby at_188) rfl kQ) ?_
    show own_Go p e below s _ _ _ (T243.setTop (mkF m 189 #[.val (.int p1), .val (.int (12 : Int32)), .val (.ref b7), .val (.ref b149)] [(.int (12 : Int32)), (.ref b7)]))
    have F333 : Arv Z h243 b7 k7 (.object "com/example/concordat/concordat/TxStatus") (15 : Int32) [(.ref a_TransactionActive), (.ref a_TransactionPreparing), (.ref a_TransactionPrepared), (.ref a_TransactionCommitting), (.ref a_TransactionCommitted), (.ref a_TransactionCommittedOnePhase), (.ref a_TransactionRollingBack), (.ref a_TransactionRolledBack), (.ref a_TransactionRollbackOnly), (.ref a_TransactionReadOnly), (.ref a_TransactionHeuristicRollback), (.ref a_TransactionHeuristicCommit), (.ref a_TransactionHeuristicMixed), (.ref a_TransactionHeuristicHazard), (.ref a_TransactionStatusUnknown)] .null := ((((((((((((((((F146.ext E149).other W155 ne152).other W162 ne152).other W168 ne152).other W174 ne152).other W180 ne152).other W187 ne152).other W193 ne152).other W199 ne152).other W205 ne152).other W212 ne152).other W218 ne152).other W224 ne152).other W230 ne152).other W237 ne152).other W243 ne152)
    obtain ⟨cl334, Ar334, kc334, S334, Nn334, H334, G334⟩ := id F333
    have hin334 : ¬ ((12 : Int32) < 0 ∨ cl334.slots.size ≤ ((12 : Int32) : Int32).toNatClampNeg) := inb_of S334 (by decide)
    have hat334 : cl334.slots[((12 : Int32) : Int32).toNatClampNeg]? = some (.ref a_TransactionHeuristicMixed) := H334.at hin334 rfl
    refine own_st (fun _ kQ => X243.aaload hx (j := (12 : Int32)) (v := (.ref a_TransactionHeuristicMixed)) (own_hp e243 Ar334.1) (State.isArrayOf_alike hZ.alike Ar334.2.1) rfl Ar334.2.2 hin334 hat334 (g := (mkF m 189 #[.val (.int p1), .val (.int (12 : Int32)), .val (.ref b7), .val (.ref b149)] [(.int (12 : Int32)), (.ref b7)])) rfl rfl (hb hby at_189) _ kQ) ?_
    show own_Go p e below s _ _ _ (T243.setTop (mkF m 190 #[.val (.int p1), .val (.int (12 : Int32)), .val (.ref b7), .val (.ref b149)] [(.ref a_TransactionHeuristicMixed)]))
    have O336 : Old Z n0 h243 := (((((((((((((((((O140.wr W143 g9).ext E149).wr W155 g153).wr W162 g153).wr W168 g153).wr W174 g153).wr W180 g153).wr W187 g153).wr W193 g153).wr W199 g153).wr W205 g153).wr W212 g153).wr W218 g153).wr W224 g153).wr W230 g153).wr W237 g153).wr W243 g153)
    have F337 : Exa Z h243 a_TransactionHeuristicMixed "com/example/concordat/concordat/TxStatus" := Ex_a_TransactionHeuristicMixed.ext O336.2
    obtain ⟨cq335, kq335, q335a, q335b, q335c⟩ := isOf hZ e243 F337
    obtain ⟨_, _, ⟨T335, L335, k335, n335⟩, -, X335, ⟨Lc335, hQ335, l335, y335, z335⟩, st335⟩ := X243.virtualBack hx (y := (⟨"com/example/concordat/concordat/TxStatus", "isCommitted", "()Z"⟩ : MethodName)) (z := (⟨"com/example/concordat/concordat/TxStatus", "isCommitted", "()Z"⟩ : MethodName)) hown (mvT hZ (hw _ (List.mem_of_getElem? (i := 36) rfl))) (mvT hZ (hw _ (List.mem_of_getElem? (i := 37) rfl))) (notFace_of_selects (args := #[]) (mvT hZ (hw _ (List.mem_of_getElem? (i := 39) rfl)))) (mvT hZ (hw _ (List.mem_of_getElem? (i := 39) rfl))) (mvT hZ (hw _ (List.mem_of_getElem? (i := 38) rfl))) (by decide) (backOf (W := 0) (own_rm_is l Z a0 hw [] a_TransactionHeuristicMixed a_TransactionCommitted a_TransactionCommittedOnePhase h243 n0 Zs248 O336 S_a_TransactionCommitted S_a_TransactionCommittedOnePhase) hZ (hw _ (List.mem_of_getElem? (i := 40) rfl)) (hw _ (List.mem_of_getElem? (i := 4) rfl)) (by decide) (by decide)) q335a q335c (g := (mkF m 190 #[.val (.int p1), .val (.int (12 : Int32)), .val (.ref b7), .val (.ref b149)] [(.ref a_TransactionHeuristicMixed)])) rfl (by rw [hml]; rfl) (Steps.refl _) (argsL := []) (rest := []) (lenOf own_pd0 rfl) rfl (by show 2 * 0 + _ ≤ _; exact Nat.le_of_eq rfl) (hb hby at_190) (fun _ _ => ⟨rfl, e243, (by decide : 2 + 0 ≤ _), (by decide : 30 + 0 ≤ _)⟩)
    dsimp only [Pt.U, Pt.locs, Pt.cells, Pt.slots] at X335 l335 y335 z335 st335 hQ335
    subst l335 y335 z335
    obtain ⟨N335q, rfl, eh335⟩ := hQ335
    have N338 := Fr.app N244 N335q
    refine own_tr st335 ?_
    show own_Go p e below s _ _ _ (T335.setTop (mkF m 193 #[.val (.int p1), .val (.int (12 : Int32)), .val (.ref b7), .val (.ref b149)] [(.int (own_is a_TransactionCommitted a_TransactionCommittedOnePhase a_TransactionHeuristicMixed))]))
    refine own_st (fun _ kQ => XS.aloadN X335.here hx rfl (hb hby at_193) rfl rfl kQ) ?_
    show own_Go p e below s _ _ _ (T335.setTop (mkF m 194 #[.val (.int p1), .val (.int (12 : Int32)), .val (.ref b7), .val (.ref b149)] [(.ref b149), (.int (own_is a_TransactionCommitted a_TransactionCommittedOnePhase a_TransactionHeuristicMixed))]))
    refine own_st (fun _ kQ => XS.iloadN X335.here hx rfl (hb hby at_194) rfl kQ) ?_
    show own_Go p e below s _ _ _ (T335.setTop (mkF m 195 #[.val (.int p1), .val (.int (12 : Int32)), .val (.ref b7), .val (.ref b149)] [(.int (12 : Int32)), (.ref b149), (.int (own_is a_TransactionCommitted a_TransactionCommittedOnePhase a_TransactionHeuristicMixed))]))
    obtain ⟨cl339, Ar339, kc339, S339, Nn339, H339, G339⟩ := id F245
    have hin339 : ¬ ((12 : Int32) < 0 ∨ cl339.slots.size ≤ ((12 : Int32) : Int32).toNatClampNeg) := inb_of S339 (by decide)
    have hat339 : cl339.slots[((12 : Int32) : Int32).toNatClampNeg]? = some (.int (nar .boolean (0 : Int32))) := H339.at hin339 rfl
    refine own_st (fun _ kQ => X335.baloadBooleans hx (j := (12 : Int32)) (v := (.int (nar .boolean (0 : Int32)))) (own_hp eh335 Ar339.1) (State.isArrayOf_alike hZ.alike Ar339.2.1) Ar339.2.2 hin339 hat339 (g := (mkF m 195 #[.val (.int p1), .val (.int (12 : Int32)), .val (.ref b7), .val (.ref b149)] [(.int (12 : Int32)), (.ref b149), (.int (own_is a_TransactionCommitted a_TransactionCommittedOnePhase a_TransactionHeuristicMixed))])) rfl rfl (hb hby at_195) _ kQ) ?_
    show own_Go p e below s _ _ _ (T335.setTop (mkF m 196 #[.val (.int p1), .val (.int (12 : Int32)), .val (.ref b7), .val (.ref b149)] [(.int (nar .boolean (0 : Int32))), (.int (own_is a_TransactionCommitted a_TransactionCommittedOnePhase a_TransactionHeuristicMixed))]))
    refine own_st (fun _ kQ => XS.icmpNo X335.here hx rfl (hb hby at_196) rfl (XT.ii_ne_f (by rw [show nar .boolean (0 : Int32) = 0 from by decide]; simp [own_is, ne_HeuristicMixed_Committed, ne_HeuristicMixed_CommittedOnePhase])) kQ) ?_
    show own_Go p e below s _ _ _ (T335.setTop (mkF m 199 #[.val (.int p1), .val (.int (12 : Int32)), .val (.ref b7), .val (.ref b149)] []))
    refine own_st (fun _ kQ => XT.iconstV X335.here hx rfl (1 : Int32) (hb hby at_199) (by decide) kQ) ?_
    show own_Go p e below s _ _ _ (T335.setTop (mkF m 200 #[.val (.int p1), .val (.int (12 : Int32)), .val (.ref b7), .val (.ref b149)] [(.int (1 : Int32))]))
    refine own_st (fun _ kQ => XS.goto X335.here hx rfl (pc0 := 200) (pc' := 204) rfl (hb hby at_200) (by decide) (by decide) kQ) ?_
    show own_Go p e below s _ _ _ (T335.setTop (mkF m 204 #[.val (.int p1), .val (.int (12 : Int32)), .val (.ref b7), .val (.ref b149)] [(.int (1 : Int32))]))
    refine own_retN X335 hx hlk Bd.returns (t := .boolean) (z' := (1 : Int32)) (by simp) (by decide) (hb hby at_204) (by decide) (by decide) ?_
    rw [eh335]
    exact ⟨N338, rfl⟩
  · rw [hi]
    show own_Go p e below s _ _ _ (T243.setTop (mkF m 187 #[.val (.int p1), .val (.int (13 : Int32)), .val (.ref b7), .val (.ref b149)] []))
    refine own_st (fun _ kQ => XS.aloadN X243.here hx rfl (hb hby at_187) rfl rfl kQ) ?_
    show own_Go p e below s _ _ _ (T243.setTop (mkF m 188 #[.val (.int p1), .val (.int (13 : Int32)), .val (.ref b7), .val (.ref b149)] [(.ref b7)]))
    refine own_st (fun _ kQ => XS.iloadN X243.here hx rfl (hb hby at_188) rfl kQ) ?_
    show own_Go p e below s _ _ _ (T243.setTop (mkF m 189 #[.val (.int p1), .val (.int (13 : Int32)), .val (.ref b7), .val (.ref b149)] [(.int (13 : Int32)), (.ref b7)]))
    have F340 : Arv Z h243 b7 k7 (.object "com/example/concordat/concordat/TxStatus") (15 : Int32) [(.ref a_TransactionActive), (.ref a_TransactionPreparing), (.ref a_TransactionPrepared), (.ref a_TransactionCommitting), (.ref a_TransactionCommitted), (.ref a_TransactionCommittedOnePhase), (.ref a_TransactionRollingBack), (.ref a_TransactionRolledBack), (.ref a_TransactionRollbackOnly), (.ref a_TransactionReadOnly), (.ref a_TransactionHeuristicRollback), (.ref a_TransactionHeuristicCommit), (.ref a_TransactionHeuristicMixed), (.ref a_TransactionHeuristicHazard), (.ref a_TransactionStatusUnknown)] .null := ((((((((((((((((F146.ext E149).other W155 ne152).other W162 ne152).other W168 ne152).other W174 ne152).other W180 ne152).other W187 ne152).other W193 ne152).other W199 ne152).other W205 ne152).other W212 ne152).other W218 ne152).other W224 ne152).other W230 ne152).other W237 ne152).other W243 ne152)
    obtain ⟨cl341, Ar341, kc341, S341, Nn341, H341, G341⟩ := id F340
    have hin341 : ¬ ((13 : Int32) < 0 ∨ cl341.slots.size ≤ ((13 : Int32) : Int32).toNatClampNeg) := inb_of S341 (by decide)
    have hat341 : cl341.slots[((13 : Int32) : Int32).toNatClampNeg]? = some (.ref a_TransactionHeuristicHazard) := H341.at hin341 rfl
    refine own_st (fun _ kQ => X243.aaload hx (j := (13 : Int32)) (v := (.ref a_TransactionHeuristicHazard)) (own_hp e243 Ar341.1) (State.isArrayOf_alike hZ.alike Ar341.2.1) rfl Ar341.2.2 hin341 hat341 (g := (mkF m 189 #[.val (.int p1), .val (.int (13 : Int32)), .val (.ref b7), .val (.ref b149)] [(.int (13 : Int32)), (.ref b7)])) rfl rfl (hb hby at_189) _ kQ) ?_
    show own_Go p e below s _ _ _ (T243.setTop (mkF m 190 #[.val (.int p1), .val (.int (13 : Int32)), .val (.ref b7), .val (.ref b149)] [(.ref a_TransactionHeuristicHazard)]))
    have O343 : Old Z n0 h243 := (((((((((((((((((O140.wr W143 g9).ext E149).wr W155 g153).wr W162 g153).wr W168 g153).wr W174 g153).wr W180 g153).wr W187 g153).wr W193 g153).wr W199 g153).wr W205 g153).wr W212 g153).wr W218 g153).wr W224 g153).wr W230 g153).wr W237 g153).wr W243 g153)
    have F344 : Exa Z h243 a_TransactionHeuristicHazard "com/example/concordat/concordat/TxStatus" := Ex_a_TransactionHeuristicHazard.ext O343.2
    obtain ⟨cq342, kq342, q342a, q342b, q342c⟩ := isOf hZ e243 F344
    obtain ⟨_, _, ⟨T342, L342, k342, n342⟩, -, X342, ⟨Lc342, hQ342, l342, y342, z342⟩, st342⟩ := X243.virtualBack hx (y := (⟨"com/example/concordat/concordat/TxStatus", "isCommitted", "()Z"⟩ : MethodName)) (z := (⟨"com/example/concordat/concordat/TxStatus", "isCommitted", "()Z"⟩ : MethodName)) hown (mvT hZ (hw _ (List.mem_of_getElem? (i := 36) rfl))) (mvT hZ (hw _ (List.mem_of_getElem? (i := 37) rfl))) (notFace_of_selects (args := #[]) (mvT hZ (hw _ (List.mem_of_getElem? (i := 39) rfl)))) (mvT hZ (hw _ (List.mem_of_getElem? (i := 39) rfl))) (mvT hZ (hw _ (List.mem_of_getElem? (i := 38) rfl))) (by decide) (backOf (W := 0) (own_rm_is l Z a0 hw [] a_TransactionHeuristicHazard a_TransactionCommitted a_TransactionCommittedOnePhase h243 n0 Zs248 O343 S_a_TransactionCommitted S_a_TransactionCommittedOnePhase) hZ (hw _ (List.mem_of_getElem? (i := 40) rfl)) (hw _ (List.mem_of_getElem? (i := 4) rfl)) (by decide) (by decide)) q342a q342c (g := (mkF m 190 #[.val (.int p1), .val (.int (13 : Int32)), .val (.ref b7), .val (.ref b149)] [(.ref a_TransactionHeuristicHazard)])) rfl (by rw [hml]; rfl) (Steps.refl _) (argsL := []) (rest := []) (lenOf own_pd0 rfl) rfl (by show 2 * 0 + _ ≤ _; exact Nat.le_of_eq rfl) (hb hby at_190) (fun _ _ => ⟨rfl, e243, (by decide : 2 + 0 ≤ _), (by decide : 30 + 0 ≤ _)⟩)
    dsimp only [Pt.U, Pt.locs, Pt.cells, Pt.slots] at X342 l342 y342 z342 st342 hQ342
    subst l342 y342 z342
    obtain ⟨N342q, rfl, eh342⟩ := hQ342
    have N345 := Fr.app N244 N342q
    refine own_tr st342 ?_
    show own_Go p e below s _ _ _ (T342.setTop (mkF m 193 #[.val (.int p1), .val (.int (13 : Int32)), .val (.ref b7), .val (.ref b149)] [(.int (own_is a_TransactionCommitted a_TransactionCommittedOnePhase a_TransactionHeuristicHazard))]))
    refine own_st (fun _ kQ => XS.aloadN X342.here hx rfl (hb hby at_193) rfl rfl kQ) ?_
    show own_Go p e below s _ _ _ (T342.setTop (mkF m 194 #[.val (.int p1), .val (.int (13 : Int32)), .val (.ref b7), .val (.ref b149)] [(.ref b149), (.int (own_is a_TransactionCommitted a_TransactionCommittedOnePhase a_TransactionHeuristicHazard))]))
    refine own_st (fun _ kQ => XS.iloadN X342.here hx rfl (hb hby at_194) rfl kQ) ?_
    show own_Go p e below s _ _ _ (T342.setTop (mkF m 195 #[.val (.int p1), .val (.int (13 : Int32)), .val (.ref b7), .val (.ref b149)] [(.int (13 : Int32)), (.ref b149), (.int (own_is a_TransactionCommitted a_TransactionCommittedOnePhase a_TransactionHeuristicHazard))]))
    obtain ⟨cl346, Ar346, kc346, S346, Nn346, H346, G346⟩ := id F245
    have hin346 : ¬ ((13 : Int32) < 0 ∨ cl346.slots.size ≤ ((13 : Int32) : Int32).toNatClampNeg) := inb_of S346 (by decide)
    have hat346 : cl346.slots[((13 : Int32) : Int32).toNatClampNeg]? = some (.int (nar .boolean (0 : Int32))) := H346.at hin346 rfl
    refine own_st (fun _ kQ => X342.baloadBooleans hx (j := (13 : Int32)) (v := (.int (nar .boolean (0 : Int32)))) (own_hp eh342 Ar346.1) (State.isArrayOf_alike hZ.alike Ar346.2.1) Ar346.2.2 hin346 hat346 (g := (mkF m 195 #[.val (.int p1), .val (.int (13 : Int32)), .val (.ref b7), .val (.ref b149)] [(.int (13 : Int32)), (.ref b149), (.int (own_is a_TransactionCommitted a_TransactionCommittedOnePhase a_TransactionHeuristicHazard))])) rfl rfl (hb hby at_195) _ kQ) ?_
    show own_Go p e below s _ _ _ (T342.setTop (mkF m 196 #[.val (.int p1), .val (.int (13 : Int32)), .val (.ref b7), .val (.ref b149)] [(.int (nar .boolean (0 : Int32))), (.int (own_is a_TransactionCommitted a_TransactionCommittedOnePhase a_TransactionHeuristicHazard))]))
    refine own_st (fun _ kQ => XS.icmpNo X342.here hx rfl (hb hby at_196) rfl (XT.ii_ne_f (by rw [show nar .boolean (0 : Int32) = 0 from by decide]; simp [own_is, ne_HeuristicHazard_Committed, ne_HeuristicHazard_CommittedOnePhase])) kQ) ?_
    show own_Go p e below s _ _ _ (T342.setTop (mkF m 199 #[.val (.int p1), .val (.int (13 : Int32)), .val (.ref b7), .val (.ref b149)] []))
    refine own_st (fun _ kQ => XT.iconstV X342.here hx rfl (1 : Int32) (hb hby at_199) (by decide) kQ) ?_
    show own_Go p e below s _ _ _ (T342.setTop (mkF m 200 #[.val (.int p1), .val (.int (13 : Int32)), .val (.ref b7), .val (.ref b149)] [(.int (1 : Int32))]))
    refine own_st (fun _ kQ => XS.goto X342.here hx rfl (pc0 := 200) (pc' := 204) rfl (hb hby at_200) (by decide) (by decide) kQ) ?_
    show own_Go p e below s _ _ _ (T342.setTop (mkF m 204 #[.val (.int p1), .val (.int (13 : Int32)), .val (.ref b7), .val (.ref b149)] [(.int (1 : Int32))]))
    refine own_retN X342 hx hlk Bd.returns (t := .boolean) (z' := (1 : Int32)) (by simp) (by decide) (hb hby at_204) (by decide) (by decide) ?_
    rw [eh342]
    exact ⟨N345, rfl⟩
  · rw [hi]
    show own_Go p e below s _ _ _ (T243.setTop (mkF m 187 #[.val (.int p1), .val (.int (14 : Int32)), .val (.ref b7), .val (.ref b149)] []))
    refine own_st (fun _ kQ => XS.aloadN X243.here hx rfl (hb hby at_187) rfl rfl kQ) ?_
    show own_Go p e below s _ _ _ (T243.setTop (mkF m 188 #[.val (.int p1), .val (.int (14 : Int32)), .val (.ref b7), .val (.ref b149)] [(.ref b7)]))
    refine own_st (fun _ kQ => XS.iloadN X243.here hx rfl (hb hby at_188) rfl kQ) ?_
    show own_Go p e below s _ _ _ (T243.setTop (mkF m 189 #[.val (.int p1), .val (.int (14 : Int32)), .val (.ref b7), .val (.ref b149)] [(.int (14 : Int32)), (.ref b7)]))
    have F347 : Arv Z h243 b7 k7 (.object "com/example/concordat/concordat/TxStatus") (15 : Int32) [(.ref a_TransactionActive), (.ref a_TransactionPreparing), (.ref a_TransactionPrepared), (.ref a_TransactionCommitting), (.ref a_TransactionCommitted), (.ref a_TransactionCommittedOnePhase), (.ref a_TransactionRollingBack), (.ref a_TransactionRolledBack), (.ref a_TransactionRollbackOnly), (.ref a_TransactionReadOnly), (.ref a_TransactionHeuristicRollback), (.ref a_TransactionHeuristicCommit), (.ref a_TransactionHeuristicMixed), (.ref a_TransactionHeuristicHazard), (.ref a_TransactionStatusUnknown)] .null := ((((((((((((((((F146.ext E149).other W155 ne152).other W162 ne152).other W168 ne152).other W174 ne152).other W180 ne152).other W187 ne152).other W193 ne152).other W199 ne152).other W205 ne152).other W212 ne152).other W218 ne152).other W224 ne152).other W230 ne152).other W237 ne152).other W243 ne152)
    obtain ⟨cl348, Ar348, kc348, S348, Nn348, H348, G348⟩ := id F347
    have hin348 : ¬ ((14 : Int32) < 0 ∨ cl348.slots.size ≤ ((14 : Int32) : Int32).toNatClampNeg) := inb_of S348 (by decide)
    have hat348 : cl348.slots[((14 : Int32) : Int32).toNatClampNeg]? = some (.ref a_TransactionStatusUnknown) := H348.at hin348 rfl
    refine own_st (fun _ kQ => X243.aaload hx (j := (14 : Int32)) (v := (.ref a_TransactionStatusUnknown)) (own_hp e243 Ar348.1) (State.isArrayOf_alike hZ.alike Ar348.2.1) rfl Ar348.2.2 hin348 hat348 (g := (mkF m 189 #[.val (.int p1), .val (.int (14 : Int32)), .val (.ref b7), .val (.ref b149)] [(.int (14 : Int32)), (.ref b7)])) rfl rfl (hb hby at_189) _ kQ) ?_
    show own_Go p e below s _ _ _ (T243.setTop (mkF m 190 #[.val (.int p1), .val (.int (14 : Int32)), .val (.ref b7), .val (.ref b149)] [(.ref a_TransactionStatusUnknown)]))
    have O350 : Old Z n0 h243 := (((((((((((((((((O140.wr W143 g9).ext E149).wr W155 g153).wr W162 g153).wr W168 g153).wr W174 g153).wr W180 g153).wr W187 g153).wr W193 g153).wr W199 g153).wr W205 g153).wr W212 g153).wr W218 g153).wr W224 g153).wr W230 g153).wr W237 g153).wr W243 g153)
    have F351 : Exa Z h243 a_TransactionStatusUnknown "com/example/concordat/concordat/TxStatus" := Ex_a_TransactionStatusUnknown.ext O350.2
    obtain ⟨cq349, kq349, q349a, q349b, q349c⟩ := isOf hZ e243 F351
    obtain ⟨_, _, ⟨T349, L349, k349, n349⟩, -, X349, ⟨Lc349, hQ349, l349, y349, z349⟩, st349⟩ := X243.virtualBack hx (y := (⟨"com/example/concordat/concordat/TxStatus", "isCommitted", "()Z"⟩ : MethodName)) (z := (⟨"com/example/concordat/concordat/TxStatus", "isCommitted", "()Z"⟩ : MethodName)) hown (mvT hZ (hw _ (List.mem_of_getElem? (i := 36) rfl))) (mvT hZ (hw _ (List.mem_of_getElem? (i := 37) rfl))) (notFace_of_selects (args := #[]) (mvT hZ (hw _ (List.mem_of_getElem? (i := 39) rfl)))) (mvT hZ (hw _ (List.mem_of_getElem? (i := 39) rfl))) (mvT hZ (hw _ (List.mem_of_getElem? (i := 38) rfl))) (by decide) (backOf (W := 0) (own_rm_is l Z a0 hw [] a_TransactionStatusUnknown a_TransactionCommitted a_TransactionCommittedOnePhase h243 n0 Zs248 O350 S_a_TransactionCommitted S_a_TransactionCommittedOnePhase) hZ (hw _ (List.mem_of_getElem? (i := 40) rfl)) (hw _ (List.mem_of_getElem? (i := 4) rfl)) (by decide) (by decide)) q349a q349c (g := (mkF m 190 #[.val (.int p1), .val (.int (14 : Int32)), .val (.ref b7), .val (.ref b149)] [(.ref a_TransactionStatusUnknown)])) rfl (by rw [hml]; rfl) (Steps.refl _) (argsL := []) (rest := []) (lenOf own_pd0 rfl) rfl (by show 2 * 0 + _ ≤ _; exact Nat.le_of_eq rfl) (hb hby at_190) (fun _ _ => ⟨rfl, e243, (by decide : 2 + 0 ≤ _), (by decide : 30 + 0 ≤ _)⟩)
    dsimp only [Pt.U, Pt.locs, Pt.cells, Pt.slots] at X349 l349 y349 z349 st349 hQ349
    subst l349 y349 z349
    obtain ⟨N349q, rfl, eh349⟩ := hQ349
    have N352 := Fr.app N244 N349q
    refine own_tr st349 ?_
    show own_Go p e below s _ _ _ (T349.setTop (mkF m 193 #[.val (.int p1), .val (.int (14 : Int32)), .val (.ref b7), .val (.ref b149)] [(.int (own_is a_TransactionCommitted a_TransactionCommittedOnePhase a_TransactionStatusUnknown))]))
    refine own_st (fun _ kQ => XS.aloadN X349.here hx rfl (hb hby at_193) rfl rfl kQ) ?_
    show own_Go p e below s _ _ _ (T349.setTop (mkF m 194 #[.val (.int p1), .val (.int (14 : Int32)), .val (.ref b7), .val (.ref b149)] [(.ref b149), (.int (own_is a_TransactionCommitted a_TransactionCommittedOnePhase a_TransactionStatusUnknown))]))
    refine own_st (fun _ kQ => XS.iloadN X349.here hx rfl (hb hby at_194) rfl kQ) ?_
    show own_Go p e below s _ _ _ (T349.setTop (mkF m 195 #[.val (.int p1), .val (.int (14 : Int32)), .val (.ref b7), .val (.ref b149)] [(.int (14 : Int32)), (.ref b149), (.int (own_is a_TransactionCommitted a_TransactionCommittedOnePhase a_TransactionStatusUnknown))]))
    obtain ⟨cl353, Ar353, kc353, S353, Nn353, H353, G353⟩ := id F245
    have hin353 : ¬ ((14 : Int32) < 0 ∨ cl353.slots.size ≤ ((14 : Int32) : Int32).toNatClampNeg) := inb_of S353 (by decide)
    have hat353 : cl353.slots[((14 : Int32) : Int32).toNatClampNeg]? = some (.int (nar .boolean (0 : Int32))) := H353.at hin353 rfl
    refine own_st (fun _ kQ => X349.baloadBooleans hx (j := (14 : Int32)) (v := (.int (nar .boolean (0 : Int32)))) (own_hp eh349 Ar353.1) (State.isArrayOf_alike hZ.alike Ar353.2.1) Ar353.2.2 hin353 hat353 (g := (mkF m 195 #[.val (.int p1), .val (.int (14 : Int32)), .val (.ref b7), .val (.ref b149)] [(.int (14 : Int32)), (.ref b149), (.int (own_is a_TransactionCommitted a_TransactionCommittedOnePhase a_TransactionStatusUnknown))])) rfl rfl (hb hby at_195) _ kQ) ?_
    show own_Go p e below s _ _ _ (T349.setTop (mkF m 196 #[.val (.int p1), .val (.int (14 : Int32)), .val (.ref b7), .val (.ref b149)] [(.int (nar .boolean (0 : Int32))), (.int (own_is a_TransactionCommitted a_TransactionCommittedOnePhase a_TransactionStatusUnknown))]))
    refine own_st (fun _ kQ => XS.icmpNo X349.here hx rfl (hb hby at_196) rfl (XT.ii_ne_f (by rw [show nar .boolean (0 : Int32) = 0 from by decide]; simp [own_is, ne_StatusUnknown_Committed, ne_StatusUnknown_CommittedOnePhase])) kQ) ?_
    show own_Go p e below s _ _ _ (T349.setTop (mkF m 199 #[.val (.int p1), .val (.int (14 : Int32)), .val (.ref b7), .val (.ref b149)] []))
    refine own_st (fun _ kQ => XT.iconstV X349.here hx rfl (1 : Int32) (hb hby at_199) (by decide) kQ) ?_
    show own_Go p e below s _ _ _ (T349.setTop (mkF m 200 #[.val (.int p1), .val (.int (14 : Int32)), .val (.ref b7), .val (.ref b149)] [(.int (1 : Int32))]))
    refine own_st (fun _ kQ => XS.goto X349.here hx rfl (pc0 := 200) (pc' := 204) rfl (hb hby at_200) (by decide) (by decide) kQ) ?_
    show own_Go p e below s _ _ _ (T349.setTop (mkF m 204 #[.val (.int p1), .val (.int (14 : Int32)), .val (.ref b7), .val (.ref b149)] [(.int (1 : Int32))]))
    refine own_retN X349 hx hlk Bd.returns (t := .boolean) (z' := (1 : Int32)) (by simp) (by decide) (hb hby at_204) (by decide) (by decide) ?_
    rw [eh349]
    exact ⟨N352, rfl⟩
set_option maxRecDepth 65536 in
set_option maxHeartbeats 40000000 in
theorem comes_1 {Post : Tables → Env → Array Value → State → Outcome → State → Prop} (hpost : ∀ tb e args s v u, (limb_1_1.after args s (.returned v) u = true ∧ limb_1_2.after args s (.returned v) u = true ∧ True) → FrameEnd s (.returned v) u (Jvm.fieldLocs frame_1_writes args s ++ Jvm.arrayLocs frame_1_arrays args s ++ Jvm.staticLocs frame_1_statics s) 16 128 → Post tb e args s (.returned v) u) :
    ArmFor flags0 classFile x code maxLocals ret World_1 tables_1 room_1 Calls_1 rest_1 Pre_1 Post := by
  intro l hfl _ _ p e ha hc hk s m args below hf hA hF happ hP
  obtain ⟨hcalls, hrest, hpre⟩ := hP
  obtain ⟨-, -, -, hnamed, -, -, -, hat⟩ := (Spec.applies_iff hf).mp happ
  obtain ⟨hg, hn⟩ := and_e (Cond.before_iff.mp (show (Jvm.Cond.and given_1 narrow_1).before args s = true from hpre))
  obtain ⟨gg0, hg0⟩ := and_e hg
  obtain ⟨w0, rfl⟩ : ∃ w0 : Value, args = #[w0] := by
    have hs : args.size = 1 := by simpa [Cond.value, given_1] using gg0
    obtain ⟨L⟩ := args
    match L, hs with
    | [w0], _ => exact ⟨w0, rfl⟩
  have hw := fun d (hd : d ∈ tables_1) => atoms_spec (ws := Jvm.Cond.code x code maxLocals ret :: tables_1) hat d (List.mem_cons_of_mem _ hd)
  have hfit : Fit s := fun {y c} hc i hi => by
    obtain ⟨ha, rfl⟩ := Array.getElem?_eq_some_iff.mp hc
    have q := List.all_eq_true.mp ((Array.all_eq_true_iff_forall_mem.mp hF) _ (Array.getElem_mem ha)) i (List.mem_range.mpr hi)
    simpa [Array.getElem?_eq_getElem hi] using q
  obtain ⟨i0, ei0⟩ := is_v hg0
  obtain rfl : w0 = (.int i0) := Option.some.inj ei0
  obtain ⟨nn0, hn0⟩ := and_e hn
  obtain ⟨nn1, hn1⟩ := and_e hn0
  obtain ⟨nn2, hn2⟩ := and_e hn1
  obtain ⟨nn3, hn3⟩ := and_e hn2
  obtain ⟨nn4, hn4⟩ := and_e hn3
  obtain ⟨nn5, hn5⟩ := and_e hn4
  obtain ⟨nn6, hn6⟩ := and_e hn5
  obtain ⟨nn7, hn7⟩ := and_e hn6
  obtain ⟨nn8, hn8⟩ := and_e hn7
  obtain ⟨nn9, hn9⟩ := and_e hn8
  obtain ⟨nn10, hn10⟩ := and_e hn9
  obtain ⟨nn11, hn11⟩ := and_e hn10
  obtain ⟨nn12, hn12⟩ := and_e hn11
  obtain ⟨nn13, hn13⟩ := and_e hn12
  obtain ⟨nn14, hn14⟩ := and_e hn13
  obtain ⟨nn15, hn15⟩ := and_e hn14
  obtain ⟨nn16, hn16⟩ := and_e hn15
  obtain ⟨nn17, hn17⟩ := and_e hn16
  obtain ⟨nn18, hn18⟩ := and_e hn17
  obtain ⟨nn19, hn19⟩ := and_e hn18
  obtain ⟨nn20, hn20⟩ := and_e hn19
  obtain ⟨nn21, hn21⟩ := and_e hn20
  obtain ⟨nn22, hn22⟩ := and_e hn21
  obtain ⟨nn23, hn23⟩ := and_e hn22
  obtain ⟨nn24, hn24⟩ := and_e hn23
  obtain ⟨nn25, hn25⟩ := and_e hn24
  obtain ⟨nn26, hn26⟩ := and_e hn25
  obtain ⟨nn27, hn27⟩ := and_e hn26
  obtain ⟨nn28, hn28⟩ := and_e hn27
  obtain ⟨a_TransactionActive, e_a_TransactionActive⟩ := exa_v nn0
  have Ex_a_TransactionActive : Exa s s.heap a_TransactionActive "com/example/concordat/concordat/TxStatus" := Exa.start e_a_TransactionActive nn0
  have S_a_TransactionActive : Sta s s.heap "com/example/concordat/concordat/TxStatus" "TransactionActive" "Lcom/example/concordat/concordat/TxStatus;" (.ref a_TransactionActive) := Sta.start e_a_TransactionActive (Or.inr ⟨(hw _ (List.mem_of_getElem? (i := 4) rfl)), (hw _ (List.mem_of_getElem? (i := 5) rfl))⟩)
  obtain ⟨a_TransactionPreparing, e_a_TransactionPreparing⟩ := exa_v nn1
  have Ex_a_TransactionPreparing : Exa s s.heap a_TransactionPreparing "com/example/concordat/concordat/TxStatus" := Exa.start e_a_TransactionPreparing nn1
  have S_a_TransactionPreparing : Sta s s.heap "com/example/concordat/concordat/TxStatus" "TransactionPreparing" "Lcom/example/concordat/concordat/TxStatus;" (.ref a_TransactionPreparing) := Sta.start e_a_TransactionPreparing (Or.inr ⟨(hw _ (List.mem_of_getElem? (i := 4) rfl)), (hw _ (List.mem_of_getElem? (i := 8) rfl))⟩)
  obtain ⟨a_TransactionPrepared, e_a_TransactionPrepared⟩ := exa_v nn2
  have Ex_a_TransactionPrepared : Exa s s.heap a_TransactionPrepared "com/example/concordat/concordat/TxStatus" := Exa.start e_a_TransactionPrepared nn2
  have S_a_TransactionPrepared : Sta s s.heap "com/example/concordat/concordat/TxStatus" "TransactionPrepared" "Lcom/example/concordat/concordat/TxStatus;" (.ref a_TransactionPrepared) := Sta.start e_a_TransactionPrepared (Or.inr ⟨(hw _ (List.mem_of_getElem? (i := 4) rfl)), (hw _ (List.mem_of_getElem? (i := 10) rfl))⟩)
  obtain ⟨a_TransactionCommitting, e_a_TransactionCommitting⟩ := exa_v nn3
  have Ex_a_TransactionCommitting : Exa s s.heap a_TransactionCommitting "com/example/concordat/concordat/TxStatus" := Exa.start e_a_TransactionCommitting nn3
  have S_a_TransactionCommitting : Sta s s.heap "com/example/concordat/concordat/TxStatus" "TransactionCommitting" "Lcom/example/concordat/concordat/TxStatus;" (.ref a_TransactionCommitting) := Sta.start e_a_TransactionCommitting (Or.inr ⟨(hw _ (List.mem_of_getElem? (i := 4) rfl)), (hw _ (List.mem_of_getElem? (i := 12) rfl))⟩)
  obtain ⟨a_TransactionCommitted, e_a_TransactionCommitted⟩ := exa_v nn4
  have Ex_a_TransactionCommitted : Exa s s.heap a_TransactionCommitted "com/example/concordat/concordat/TxStatus" := Exa.start e_a_TransactionCommitted nn4
  have S_a_TransactionCommitted : Sta s s.heap "com/example/concordat/concordat/TxStatus" "TransactionCommitted" "Lcom/example/concordat/concordat/TxStatus;" (.ref a_TransactionCommitted) := Sta.start e_a_TransactionCommitted (Or.inr ⟨(hw _ (List.mem_of_getElem? (i := 4) rfl)), (hw _ (List.mem_of_getElem? (i := 14) rfl))⟩)
  obtain ⟨a_TransactionCommittedOnePhase, e_a_TransactionCommittedOnePhase⟩ := exa_v nn5
  have Ex_a_TransactionCommittedOnePhase : Exa s s.heap a_TransactionCommittedOnePhase "com/example/concordat/concordat/TxStatus" := Exa.start e_a_TransactionCommittedOnePhase nn5
  have S_a_TransactionCommittedOnePhase : Sta s s.heap "com/example/concordat/concordat/TxStatus" "TransactionCommittedOnePhase" "Lcom/example/concordat/concordat/TxStatus;" (.ref a_TransactionCommittedOnePhase) := Sta.start e_a_TransactionCommittedOnePhase (Or.inr ⟨(hw _ (List.mem_of_getElem? (i := 4) rfl)), (hw _ (List.mem_of_getElem? (i := 16) rfl))⟩)
  obtain ⟨a_TransactionRollingBack, e_a_TransactionRollingBack⟩ := exa_v nn6
  have Ex_a_TransactionRollingBack : Exa s s.heap a_TransactionRollingBack "com/example/concordat/concordat/TxStatus" := Exa.start e_a_TransactionRollingBack nn6
  have S_a_TransactionRollingBack : Sta s s.heap "com/example/concordat/concordat/TxStatus" "TransactionRollingBack" "Lcom/example/concordat/concordat/TxStatus;" (.ref a_TransactionRollingBack) := Sta.start e_a_TransactionRollingBack (Or.inr ⟨(hw _ (List.mem_of_getElem? (i := 4) rfl)), (hw _ (List.mem_of_getElem? (i := 18) rfl))⟩)
  obtain ⟨a_TransactionRolledBack, e_a_TransactionRolledBack⟩ := exa_v nn7
  have Ex_a_TransactionRolledBack : Exa s s.heap a_TransactionRolledBack "com/example/concordat/concordat/TxStatus" := Exa.start e_a_TransactionRolledBack nn7
  have S_a_TransactionRolledBack : Sta s s.heap "com/example/concordat/concordat/TxStatus" "TransactionRolledBack" "Lcom/example/concordat/concordat/TxStatus;" (.ref a_TransactionRolledBack) := Sta.start e_a_TransactionRolledBack (Or.inr ⟨(hw _ (List.mem_of_getElem? (i := 4) rfl)), (hw _ (List.mem_of_getElem? (i := 20) rfl))⟩)
  obtain ⟨a_TransactionRollbackOnly, e_a_TransactionRollbackOnly⟩ := exa_v nn8
  have Ex_a_TransactionRollbackOnly : Exa s s.heap a_TransactionRollbackOnly "com/example/concordat/concordat/TxStatus" := Exa.start e_a_TransactionRollbackOnly nn8
  have S_a_TransactionRollbackOnly : Sta s s.heap "com/example/concordat/concordat/TxStatus" "TransactionRollbackOnly" "Lcom/example/concordat/concordat/TxStatus;" (.ref a_TransactionRollbackOnly) := Sta.start e_a_TransactionRollbackOnly (Or.inr ⟨(hw _ (List.mem_of_getElem? (i := 4) rfl)), (hw _ (List.mem_of_getElem? (i := 22) rfl))⟩)
  obtain ⟨a_TransactionReadOnly, e_a_TransactionReadOnly⟩ := exa_v nn9
  have Ex_a_TransactionReadOnly : Exa s s.heap a_TransactionReadOnly "com/example/concordat/concordat/TxStatus" := Exa.start e_a_TransactionReadOnly nn9
  have S_a_TransactionReadOnly : Sta s s.heap "com/example/concordat/concordat/TxStatus" "TransactionReadOnly" "Lcom/example/concordat/concordat/TxStatus;" (.ref a_TransactionReadOnly) := Sta.start e_a_TransactionReadOnly (Or.inr ⟨(hw _ (List.mem_of_getElem? (i := 4) rfl)), (hw _ (List.mem_of_getElem? (i := 24) rfl))⟩)
  obtain ⟨a_TransactionHeuristicRollback, e_a_TransactionHeuristicRollback⟩ := exa_v nn10
  have Ex_a_TransactionHeuristicRollback : Exa s s.heap a_TransactionHeuristicRollback "com/example/concordat/concordat/TxStatus" := Exa.start e_a_TransactionHeuristicRollback nn10
  have S_a_TransactionHeuristicRollback : Sta s s.heap "com/example/concordat/concordat/TxStatus" "TransactionHeuristicRollback" "Lcom/example/concordat/concordat/TxStatus;" (.ref a_TransactionHeuristicRollback) := Sta.start e_a_TransactionHeuristicRollback (Or.inr ⟨(hw _ (List.mem_of_getElem? (i := 4) rfl)), (hw _ (List.mem_of_getElem? (i := 26) rfl))⟩)
  obtain ⟨a_TransactionHeuristicCommit, e_a_TransactionHeuristicCommit⟩ := exa_v nn11
  have Ex_a_TransactionHeuristicCommit : Exa s s.heap a_TransactionHeuristicCommit "com/example/concordat/concordat/TxStatus" := Exa.start e_a_TransactionHeuristicCommit nn11
  have S_a_TransactionHeuristicCommit : Sta s s.heap "com/example/concordat/concordat/TxStatus" "TransactionHeuristicCommit" "Lcom/example/concordat/concordat/TxStatus;" (.ref a_TransactionHeuristicCommit) := Sta.start e_a_TransactionHeuristicCommit (Or.inr ⟨(hw _ (List.mem_of_getElem? (i := 4) rfl)), (hw _ (List.mem_of_getElem? (i := 28) rfl))⟩)
  obtain ⟨a_TransactionHeuristicMixed, e_a_TransactionHeuristicMixed⟩ := exa_v nn12
  have Ex_a_TransactionHeuristicMixed : Exa s s.heap a_TransactionHeuristicMixed "com/example/concordat/concordat/TxStatus" := Exa.start e_a_TransactionHeuristicMixed nn12
  have S_a_TransactionHeuristicMixed : Sta s s.heap "com/example/concordat/concordat/TxStatus" "TransactionHeuristicMixed" "Lcom/example/concordat/concordat/TxStatus;" (.ref a_TransactionHeuristicMixed) := Sta.start e_a_TransactionHeuristicMixed (Or.inr ⟨(hw _ (List.mem_of_getElem? (i := 4) rfl)), (hw _ (List.mem_of_getElem? (i := 30) rfl))⟩)
  obtain ⟨a_TransactionHeuristicHazard, e_a_TransactionHeuristicHazard⟩ := exa_v nn13
  have Ex_a_TransactionHeuristicHazard : Exa s s.heap a_TransactionHeuristicHazard "com/example/concordat/concordat/TxStatus" := Exa.start e_a_TransactionHeuristicHazard nn13
  have S_a_TransactionHeuristicHazard : Sta s s.heap "com/example/concordat/concordat/TxStatus" "TransactionHeuristicHazard" "Lcom/example/concordat/concordat/TxStatus;" (.ref a_TransactionHeuristicHazard) := Sta.start e_a_TransactionHeuristicHazard (Or.inr ⟨(hw _ (List.mem_of_getElem? (i := 4) rfl)), (hw _ (List.mem_of_getElem? (i := 32) rfl))⟩)
  obtain ⟨a_TransactionStatusUnknown, e_a_TransactionStatusUnknown⟩ := exa_v nn14
  have Ex_a_TransactionStatusUnknown : Exa s s.heap a_TransactionStatusUnknown "com/example/concordat/concordat/TxStatus" := Exa.start e_a_TransactionStatusUnknown nn14
  have S_a_TransactionStatusUnknown : Sta s s.heap "com/example/concordat/concordat/TxStatus" "TransactionStatusUnknown" "Lcom/example/concordat/concordat/TxStatus;" (.ref a_TransactionStatusUnknown) := Sta.start e_a_TransactionStatusUnknown (Or.inr ⟨(hw _ (List.mem_of_getElem? (i := 4) rfl)), (hw _ (List.mem_of_getElem? (i := 34) rfl))⟩)
  have ev_nn15 := own_eqV nn15 (Term.int_eval _)
  have F_TransactionActive_ordinal : Fld s s.heap a_TransactionActive "java/lang/Enum" "ordinal" "I" (.int (0 : Int32)) := Fld.start ((fld_at e_a_TransactionActive).symm.trans ev_nn15)
  have ev_nn16 := own_eqV nn16 (Term.int_eval _)
  have F_TransactionCommitted_ordinal : Fld s s.heap a_TransactionCommitted "java/lang/Enum" "ordinal" "I" (.int (4 : Int32)) := Fld.start ((fld_at e_a_TransactionCommitted).symm.trans ev_nn16)
  have ev_nn17 := own_eqV nn17 (Term.int_eval _)
  have F_TransactionCommittedOnePhase_ordinal : Fld s s.heap a_TransactionCommittedOnePhase "java/lang/Enum" "ordinal" "I" (.int (5 : Int32)) := Fld.start ((fld_at e_a_TransactionCommittedOnePhase).symm.trans ev_nn17)
  have ev_nn18 := own_eqV nn18 (Term.int_eval _)
  have F_TransactionCommitting_ordinal : Fld s s.heap a_TransactionCommitting "java/lang/Enum" "ordinal" "I" (.int (3 : Int32)) := Fld.start ((fld_at e_a_TransactionCommitting).symm.trans ev_nn18)
  have ev_nn19 := own_eqV nn19 (Term.int_eval _)
  have F_TransactionHeuristicHazard_ordinal : Fld s s.heap a_TransactionHeuristicHazard "java/lang/Enum" "ordinal" "I" (.int (13 : Int32)) := Fld.start ((fld_at e_a_TransactionHeuristicHazard).symm.trans ev_nn19)
  have ev_nn20 := own_eqV nn20 (Term.int_eval _)
  have F_TransactionRollingBack_ordinal : Fld s s.heap a_TransactionRollingBack "java/lang/Enum" "ordinal" "I" (.int (6 : Int32)) := Fld.start ((fld_at e_a_TransactionRollingBack).symm.trans ev_nn20)
  have ev_nn21 := own_eqV nn21 (Term.int_eval _)
  have F_TransactionStatusUnknown_ordinal : Fld s s.heap a_TransactionStatusUnknown "java/lang/Enum" "ordinal" "I" (.int (14 : Int32)) := Fld.start ((fld_at e_a_TransactionStatusUnknown).symm.trans ev_nn21)
  have ev_nn22 := own_eqV nn22 (Term.int_eval _)
  have F_TransactionRolledBack_ordinal : Fld s s.heap a_TransactionRolledBack "java/lang/Enum" "ordinal" "I" (.int (7 : Int32)) := Fld.start ((fld_at e_a_TransactionRolledBack).symm.trans ev_nn22)
  have ev_nn23 := own_eqV nn23 (Term.int_eval _)
  have F_TransactionPrepared_ordinal : Fld s s.heap a_TransactionPrepared "java/lang/Enum" "ordinal" "I" (.int (2 : Int32)) := Fld.start ((fld_at e_a_TransactionPrepared).symm.trans ev_nn23)
  have ev_nn24 := own_eqV nn24 (Term.int_eval _)
  have F_TransactionHeuristicCommit_ordinal : Fld s s.heap a_TransactionHeuristicCommit "java/lang/Enum" "ordinal" "I" (.int (11 : Int32)) := Fld.start ((fld_at e_a_TransactionHeuristicCommit).symm.trans ev_nn24)
  have ev_nn25 := own_eqV nn25 (Term.int_eval _)
  have F_TransactionHeuristicRollback_ordinal : Fld s s.heap a_TransactionHeuristicRollback "java/lang/Enum" "ordinal" "I" (.int (10 : Int32)) := Fld.start ((fld_at e_a_TransactionHeuristicRollback).symm.trans ev_nn25)
  have ev_nn26 := own_eqV nn26 (Term.int_eval _)
  have F_TransactionRollbackOnly_ordinal : Fld s s.heap a_TransactionRollbackOnly "java/lang/Enum" "ordinal" "I" (.int (8 : Int32)) := Fld.start ((fld_at e_a_TransactionRollbackOnly).symm.trans ev_nn26)
  have ev_nn27 := own_eqV nn27 (Term.int_eval _)
  have F_TransactionPreparing_ordinal : Fld s s.heap a_TransactionPreparing "java/lang/Enum" "ordinal" "I" (.int (1 : Int32)) := Fld.start ((fld_at e_a_TransactionPreparing).symm.trans ev_nn27)
  have ev_nn28 := own_eqV nn28 (Term.int_eval _)
  have F_TransactionHeuristicMixed_ordinal : Fld s s.heap a_TransactionHeuristicMixed "java/lang/Enum" "ordinal" "I" (.int (12 : Int32)) := Fld.start ((fld_at e_a_TransactionHeuristicMixed).symm.trans ev_nn28)
  have ev_hn28 := own_eqV hn28 (Term.int_eval _)
  have F_TransactionReadOnly_ordinal : Fld s s.heap a_TransactionReadOnly "java/lang/Enum" "ordinal" "I" (.int (9 : Int32)) := Fld.start ((fld_at e_a_TransactionReadOnly).symm.trans ev_hn28)
  obtain ⟨n, o, h1, h2, h3, _, L, rfl, ⟨N, rfl⟩, hq⟩ := own_law l s _ hw tables_1 i0 a_TransactionActive a_TransactionPreparing a_TransactionPrepared a_TransactionCommitting a_TransactionCommitted a_TransactionCommittedOnePhase a_TransactionRollingBack a_TransactionRolledBack a_TransactionRollbackOnly a_TransactionReadOnly a_TransactionHeuristicRollback a_TransactionHeuristicCommit a_TransactionHeuristicMixed a_TransactionHeuristicHazard a_TransactionStatusUnknown s.heap s.heap.size (Nat.le_refl _) (Old.start s) Ex_a_TransactionActive S_a_TransactionActive Ex_a_TransactionPreparing S_a_TransactionPreparing Ex_a_TransactionPrepared S_a_TransactionPrepared Ex_a_TransactionCommitting S_a_TransactionCommitting Ex_a_TransactionCommitted S_a_TransactionCommitted Ex_a_TransactionCommittedOnePhase S_a_TransactionCommittedOnePhase Ex_a_TransactionRollingBack S_a_TransactionRollingBack Ex_a_TransactionRolledBack S_a_TransactionRolledBack Ex_a_TransactionRollbackOnly S_a_TransactionRollbackOnly Ex_a_TransactionReadOnly S_a_TransactionReadOnly Ex_a_TransactionHeuristicRollback S_a_TransactionHeuristicRollback Ex_a_TransactionHeuristicCommit S_a_TransactionHeuristicCommit Ex_a_TransactionHeuristicMixed S_a_TransactionHeuristicMixed Ex_a_TransactionHeuristicHazard S_a_TransactionHeuristicHazard Ex_a_TransactionStatusUnknown S_a_TransactionStatusUnknown F_TransactionActive_ordinal F_TransactionCommitted_ordinal F_TransactionCommittedOnePhase_ordinal F_TransactionCommitting_ordinal F_TransactionHeuristicHazard_ordinal F_TransactionRollingBack_ordinal F_TransactionStatusUnknown_ordinal F_TransactionRolledBack_ordinal F_TransactionPrepared_ordinal F_TransactionHeuristicCommit_ordinal F_TransactionHeuristicRollback_ordinal F_TransactionRollbackOnly_ordinal F_TransactionPreparing_ordinal F_TransactionHeuristicMixed_ordinal F_TransactionReadOnly_ordinal p e ha hc hk s m _ below hf ((Spec.applies_iff_loose hf).mp happ).1 ⟨rfl, State.Warmed39.refl s, rfl⟩ trivial
  refine ⟨n, _, h1, h2, h3, hpost _ _ _ _ _ _ ⟨Cond.after_iff.mpr rfl, Cond.after_iff.mpr (eq_i res_at (Term.int_eval (1)) rfl), trivial⟩ ⟨hq.1, hq.2.1, (hq.2.2.sift fun y hy => Or.inr (N y hy)).mono (by decide) (by decide)⟩⟩
theorem main_1_1 : Claimed_1_1 := comes_1 fun _ _ _ _ _ _ h hF => ⟨h.1, hF⟩
theorem main_1_2 : Claimed_1_2 := comes_1 fun _ _ _ _ _ _ h hF => ⟨h.2.1, hF⟩
end Jvm.Pilot.@@N@@
namespace Jvm.Pilot.@@N@@
open Jvm Jvm.ClassFile Sem Op Lib Jvm.Free Jvm.Stand Jvm.Pilot.@@N@@.Jvm.D
/-! MADE BY PROGRAM (witnessworld.py) out of the Statement's table words and the real class files: 15 classes; the members and pool entries that the words name. The judged class is class 1, her method 1. -/
namespace start1
open Jvm.ClassFile
def u (s : String) : CpInfo := .utf8 (stringToUtf16 s)
/-- a pool by its gaps: so many unusable entries, then the entry; so many at the end -/
def gap : Nat → List CpInfo → List CpInfo
  | 0, r => r
  | n + 1, r => .unusable :: gap n r
def poolList (es : List (Nat × CpInfo)) (last : Nat) : List CpInfo := es.foldr (fun e r => gap e.1 (e.2 :: r)) (gap last [])
def pool (es : List (Nat × CpInfo)) (last : Nat) : Array CpInfo := ⟨poolList es last⟩
def fileOf (pool : Array CpInfo) (this : Nat) (attrs : Array Attribute := #[]) (ms : Array MethodInfo := #[]) (fl : Nat := 33) (sup : Nat := 0) (ifs : Array Nat := #[]) (fds : Array FieldInfo := #[]) : ClassFile where
  minorVersion := 0
  majorVersion := 65
  constantPool := pool
  accessFlags := fl
  thisClass := this
  superClass := sup
  interfaces := ifs
  fields := fds
  methods := ms
  attributes := attrs
def plain (name : String) (sup : Option ClassId) : Class where
  name := name
  kind := .ordinary
  loader := none
  accessFlags := 33
  super := sup
  interfaces := #[]
  cf := none
  fields := #[]
  methods := #[]
  instanceTypes := #[]
  staticTypes := #[]
  resolved := #[]
  callSites := []
  init := .initialized
  statics := none
  mirror := none

def pool0 : Array CpInfo := pool [(5, u "<init>"), (0, u "()V"), (1, .class_ 10), (1, u "java/lang/Object")] 113

def k0m0 : Method := { name := "<init>", desc := "()V", sig := { parameters := [], returnType := none }, accessFlags := 1, code := none }
/-- java/lang/Object -/
def k0 : Class := { plain "java/lang/Object" none with
  accessFlags := 33
  interfaces := #[]
  cf := some (fileOf pool0 8 #[] #[{ accessFlags := 1, nameIndex := 5, descriptorIndex := 6, attributes := #[] }] 33 0 #[] #[])
  fields := #[]
  methods := #[k0m0]
  instanceTypes := #[]
  staticTypes := #[]
  resolved := Array.replicate 124 none
  statics := none }

def pool1 : Array CpInfo := pool [(2, .class_ 4), (1, u "java/lang/Object"), (0, u "<init>"), (0, u "()V"), (0, .integer 2147483647), (0, .class_ 9), (0, u "com/example/concordat/concordat/TxStatus"), (0, .fieldref 8 11), (0, .nameAndType 12 13), (0, u "TransactionActive"), (0, u "Lcom/example/concordat/concordat/TxStatus;"), (0, .fieldref 8 15), (0, .nameAndType 16 13), (0, u "TransactionPreparing"), (0, .fieldref 8 18), (0, .nameAndType 19 13), (0, u "TransactionPrepared"), (0, .fieldref 8 21), (0, .nameAndType 22 13), (0, u "TransactionCommitting"), (0, .fieldref 8 24), (0, .nameAndType 25 13), (0, u "TransactionCommitted"), (0, .fieldref 8 27), (0, .nameAndType 28 13), (0, u "TransactionCommittedOnePhase"), (0, .fieldref 8 30), (0, .nameAndType 31 13), (0, u "TransactionRollingBack"), (0, .fieldref 8 33), (0, .nameAndType 34 13), (0, u "TransactionRolledBack"), (0, .fieldref 8 36), (0, .nameAndType 37 13), (0, u "TransactionRollbackOnly"), (0, .fieldref 8 39), (0, .nameAndType 40 13), (0, u "TransactionReadOnly"), (0, .fieldref 8 42), (0, .nameAndType 43 13), (0, u "TransactionHeuristicRollback"), (0, .fieldref 8 45), (0, .nameAndType 46 13), (0, u "TransactionHeuristicCommit"), (0, .fieldref 8 48), (0, .nameAndType 49 13), (0, u "TransactionHeuristicMixed"), (0, .fieldref 8 51), (0, .nameAndType 52 13), (0, u "TransactionHeuristicHazard"), (0, .fieldref 8 54), (0, .nameAndType 55 13), (0, u "TransactionStatusUnknown"), (0, .methodref 8 57), (0, .nameAndType 58 59), (0, u "isCommitted"), (0, u "()Z"), (0, .class_ 61), (0, u "com/example/concordat/concordat/TxStatusIsCommittedPinLaw"), (2, u "law"), (0, u "(I)Z")] 7

def k1m0 : Method := { name := "<init>", desc := "()V", sig := { parameters := [], returnType := none }, accessFlags := 2, code := none }
def k1c1 : Code := { maxStack := 4, maxLocals := 4, code := code, exceptionTable := #[], attributes := #[] }
def k1m1 : Method := { name := "law", desc := "(I)Z", sig := { parameters := [.int], returnType := some .boolean }, accessFlags := 9, code := some k1c1 }
/-- com/example/concordat/concordat/TxStatusIsCommittedPinLaw -/
def k1 : Class := { plain "com/example/concordat/concordat/TxStatusIsCommittedPinLaw" (some 0) with
  accessFlags := 49
  interfaces := #[]
  cf := some (fileOf pool1 60 #[] #[{ accessFlags := 2, nameIndex := 5, descriptorIndex := 6, attributes := #[] }, { accessFlags := 9, nameIndex := 64, descriptorIndex := 65, attributes := #[] }] 49 2 #[] #[])
  fields := #[]
  methods := #[k1m0, k1m1]
  instanceTypes := #[]
  staticTypes := #[]
  resolved := Array.replicate 73 none
  statics := none }

def pool2 : Array CpInfo := pool [(1, .class_ 2), (0, u "java/lang/constant/Constable"), (0, .class_ 4), (0, u "java/lang/Object")] 6

/-- java/lang/constant/Constable -/
def k2 : Class := { plain "java/lang/constant/Constable" (some 0) with
  accessFlags := 1537
  interfaces := #[]
  cf := some (fileOf pool2 1 #[] #[] 1537 3 #[] #[])
  fields := #[]
  methods := #[]
  instanceTypes := #[]
  staticTypes := #[]
  resolved := Array.replicate 11 none
  statics := none }

def pool3 : Array CpInfo := pool [(1, .class_ 2), (0, u "java/lang/Comparable"), (0, .class_ 4), (0, u "java/lang/Object")] 7

/-- java/lang/Comparable -/
def k3 : Class := { plain "java/lang/Comparable" (some 0) with
  accessFlags := 1537
  interfaces := #[]
  cf := some (fileOf pool3 1 #[] #[] 1537 3 #[] #[])
  fields := #[]
  methods := #[]
  instanceTypes := #[]
  staticTypes := #[]
  resolved := Array.replicate 12 none
  statics := none }

def pool4 : Array CpInfo := pool [(1, .class_ 2), (0, u "java/io/Serializable"), (0, .class_ 4), (0, u "java/lang/Object")] 2

/-- java/io/Serializable -/
def k4 : Class := { plain "java/io/Serializable" (some 0) with
  accessFlags := 1537
  interfaces := #[]
  cf := some (fileOf pool4 1 #[] #[] 1537 3 #[] #[])
  fields := #[]
  methods := #[]
  instanceTypes := #[]
  staticTypes := #[]
  resolved := Array.replicate 7 none
  statics := none }

def pool5 : Array CpInfo := pool [(2, .class_ 4), (1, u "java/lang/Enum"), (0, u "name"), (0, u "Ljava/lang/String;"), (2, u "ordinal"), (0, u "I"), (1, .class_ 14), (1, u "java/lang/Object"), (4, u "hash"), (86, .class_ 108), (1, u "java/lang/Enum$EnumDesc"), (2, .class_ 112), (0, u "java/lang/constant/Constable"), (0, .class_ 114), (0, u "java/lang/Comparable"), (0, .class_ 116), (0, u "java/io/Serializable")] 87

/-- java/lang/Enum -/
def k5 : Class := { plain "java/lang/Enum" (some 0) with
  accessFlags := 1057
  interfaces := #[2, 3, 4]
  cf := some (fileOf pool5 2 #[.nestMembers #[106]] #[] 1057 12 #[111, 113, 115] #[{ accessFlags := 18, nameIndex := 5, descriptorIndex := 6, attributes := #[] }, { accessFlags := 18, nameIndex := 9, descriptorIndex := 10, attributes := #[] }, { accessFlags := 2, nameIndex := 19, descriptorIndex := 10, attributes := #[] }])
  fields := #[{ name := "name", type := (.object "java/lang/String"), accessFlags := 18, slot := 0, constantValue := 0 }, { name := "ordinal", type := .int, accessFlags := 18, slot := 1, constantValue := 0 }, { name := "hash", type := .int, accessFlags := 2, slot := 2, constantValue := 0 }]
  methods := #[]
  instanceTypes := #[(.object "java/lang/String"), .int, .int]
  staticTypes := #[]
  resolved := Array.replicate 204 none
  statics := none }

def pool6 : Array CpInfo := pool [(1, .class_ 2), (0, u "com/example/concordat/concordat/TxStatus"), (2, u "TransactionActive"), (0, u "Lcom/example/concordat/concordat/TxStatus;"), (2, u "TransactionPreparing"), (2, u "TransactionPrepared"), (2, u "TransactionCommitting"), (0, .fieldref 1 17), (0, .nameAndType 18 6), (0, u "TransactionCommitted"), (0, .fieldref 1 20), (0, .nameAndType 21 6), (0, u "TransactionCommittedOnePhase"), (2, u "TransactionRollingBack"), (2, u "TransactionRolledBack"), (2, u "TransactionRollbackOnly"), (2, u "TransactionReadOnly"), (2, u "TransactionHeuristicRollback"), (2, u "TransactionHeuristicCommit"), (2, u "TransactionHeuristicMixed"), (2, u "TransactionHeuristicHazard"), (2, u "TransactionStatusUnknown"), (2, u "$VALUES"), (0, u "[Lcom/example/concordat/concordat/TxStatus;"), (6, .class_ 61), (1, u "java/lang/Enum"), (76, u "MEDIA_TYPE"), (0, u "Ljava/lang/String;"), (3, u "PREFIX"), (10, u "isCommitted"), (0, u "()Z")] 20

def k6c0 : Code := { maxStack := 2, maxLocals := 1, code := prog_44_method_6_code, exceptionTable := #[], attributes := #[] }
def k6m0 : Method := { name := "isCommitted", desc := "()Z", sig := { parameters := [], returnType := some .boolean }, accessFlags := 0, code := some k6c0 }
/-- com/example/concordat/concordat/TxStatus -/
def k6 : Class := { plain "com/example/concordat/concordat/TxStatus" (some 5) with
  accessFlags := 16432
  interfaces := #[]
  cf := some (fileOf pool6 1 #[] #[{ accessFlags := 0, nameIndex := 154, descriptorIndex := 155, attributes := #[] }] 16432 59 #[] #[{ accessFlags := 16409, nameIndex := 5, descriptorIndex := 6, attributes := #[] }, { accessFlags := 16409, nameIndex := 9, descriptorIndex := 6, attributes := #[] }, { accessFlags := 16409, nameIndex := 12, descriptorIndex := 6, attributes := #[] }, { accessFlags := 16409, nameIndex := 15, descriptorIndex := 6, attributes := #[] }, { accessFlags := 16409, nameIndex := 18, descriptorIndex := 6, attributes := #[] }, { accessFlags := 16409, nameIndex := 21, descriptorIndex := 6, attributes := #[] }, { accessFlags := 16409, nameIndex := 24, descriptorIndex := 6, attributes := #[] }, { accessFlags := 16409, nameIndex := 27, descriptorIndex := 6, attributes := #[] }, { accessFlags := 16409, nameIndex := 30, descriptorIndex := 6, attributes := #[] }, { accessFlags := 16409, nameIndex := 33, descriptorIndex := 6, attributes := #[] }, { accessFlags := 16409, nameIndex := 36, descriptorIndex := 6, attributes := #[] }, { accessFlags := 16409, nameIndex := 39, descriptorIndex := 6, attributes := #[] }, { accessFlags := 16409, nameIndex := 42, descriptorIndex := 6, attributes := #[] }, { accessFlags := 16409, nameIndex := 45, descriptorIndex := 6, attributes := #[] }, { accessFlags := 16409, nameIndex := 48, descriptorIndex := 6, attributes := #[] }, { accessFlags := 24, nameIndex := 138, descriptorIndex := 139, attributes := #[] }, { accessFlags := 26, nameIndex := 143, descriptorIndex := 139, attributes := #[] }, { accessFlags := 4122, nameIndex := 51, descriptorIndex := 52, attributes := #[] }])
  fields := #[{ name := "TransactionActive", type := (.object "com/example/concordat/concordat/TxStatus"), accessFlags := 16409, slot := 0, constantValue := 0 }, { name := "TransactionPreparing", type := (.object "com/example/concordat/concordat/TxStatus"), accessFlags := 16409, slot := 1, constantValue := 0 }, { name := "TransactionPrepared", type := (.object "com/example/concordat/concordat/TxStatus"), accessFlags := 16409, slot := 2, constantValue := 0 }, { name := "TransactionCommitting", type := (.object "com/example/concordat/concordat/TxStatus"), accessFlags := 16409, slot := 3, constantValue := 0 }, { name := "TransactionCommitted", type := (.object "com/example/concordat/concordat/TxStatus"), accessFlags := 16409, slot := 4, constantValue := 0 }, { name := "TransactionCommittedOnePhase", type := (.object "com/example/concordat/concordat/TxStatus"), accessFlags := 16409, slot := 5, constantValue := 0 }, { name := "TransactionRollingBack", type := (.object "com/example/concordat/concordat/TxStatus"), accessFlags := 16409, slot := 6, constantValue := 0 }, { name := "TransactionRolledBack", type := (.object "com/example/concordat/concordat/TxStatus"), accessFlags := 16409, slot := 7, constantValue := 0 }, { name := "TransactionRollbackOnly", type := (.object "com/example/concordat/concordat/TxStatus"), accessFlags := 16409, slot := 8, constantValue := 0 }, { name := "TransactionReadOnly", type := (.object "com/example/concordat/concordat/TxStatus"), accessFlags := 16409, slot := 9, constantValue := 0 }, { name := "TransactionHeuristicRollback", type := (.object "com/example/concordat/concordat/TxStatus"), accessFlags := 16409, slot := 10, constantValue := 0 }, { name := "TransactionHeuristicCommit", type := (.object "com/example/concordat/concordat/TxStatus"), accessFlags := 16409, slot := 11, constantValue := 0 }, { name := "TransactionHeuristicMixed", type := (.object "com/example/concordat/concordat/TxStatus"), accessFlags := 16409, slot := 12, constantValue := 0 }, { name := "TransactionHeuristicHazard", type := (.object "com/example/concordat/concordat/TxStatus"), accessFlags := 16409, slot := 13, constantValue := 0 }, { name := "TransactionStatusUnknown", type := (.object "com/example/concordat/concordat/TxStatus"), accessFlags := 16409, slot := 14, constantValue := 0 }, { name := "MEDIA_TYPE", type := (.object "java/lang/String"), accessFlags := 24, slot := 15, constantValue := 0 }, { name := "PREFIX", type := (.object "java/lang/String"), accessFlags := 26, slot := 16, constantValue := 0 }, { name := "$VALUES", type := (.array (.object "com/example/concordat/concordat/TxStatus")), accessFlags := 4122, slot := 17, constantValue := 0 }]
  methods := #[k6m0]
  instanceTypes := #[(.object "java/lang/String"), .int, .int]
  staticTypes := #[(.object "com/example/concordat/concordat/TxStatus"), (.object "com/example/concordat/concordat/TxStatus"), (.object "com/example/concordat/concordat/TxStatus"), (.object "com/example/concordat/concordat/TxStatus"), (.object "com/example/concordat/concordat/TxStatus"), (.object "com/example/concordat/concordat/TxStatus"), (.object "com/example/concordat/concordat/TxStatus"), (.object "com/example/concordat/concordat/TxStatus"), (.object "com/example/concordat/concordat/TxStatus"), (.object "com/example/concordat/concordat/TxStatus"), (.object "com/example/concordat/concordat/TxStatus"), (.object "com/example/concordat/concordat/TxStatus"), (.object "com/example/concordat/concordat/TxStatus"), (.object "com/example/concordat/concordat/TxStatus"), (.object "com/example/concordat/concordat/TxStatus"), (.object "java/lang/String"), (.object "java/lang/String"), (.array (.object "com/example/concordat/concordat/TxStatus"))]
  resolved := Array.replicate 176 none
  statics := some 0 }

def pool7 : Array CpInfo := pool [(1, u "java/lang/Cloneable"), (0, .class_ 1), (0, u "java/lang/Object"), (0, .class_ 3)] 3

/-- java/lang/Cloneable -/
def k7 : Class := { plain "java/lang/Cloneable" (some 0) with
  accessFlags := 1537
  interfaces := #[]
  cf := some (fileOf pool7 2 #[] #[] 1537 4 #[] #[])
  fields := #[]
  methods := #[]
  instanceTypes := #[]
  staticTypes := #[]
  resolved := Array.replicate 8 none
  statics := none }

/-- the primitive boolean -/
def k8 : Class := { plain "boolean" none with kind := .primitive 'Z', accessFlags := 0x411 }
/-- [Z -/
def k9 : Class := { plain "[Z" (some 0) with kind := .array 8 .boolean, interfaces := #[7, 4], accessFlags := 1041 }

/-- the primitive byte -/
def k10 : Class := { plain "byte" none with kind := .primitive 'B', accessFlags := 0x411 }
/-- [B -/
def k11 : Class := { plain "[B" (some 0) with kind := .array 10 .byte, interfaces := #[7, 4], accessFlags := 1041 }

/-- the primitive int -/
def k12 : Class := { plain "int" none with kind := .primitive 'I', accessFlags := 0x411 }
/-- [I -/
def k13 : Class := { plain "[I" (some 0) with kind := .array 12 .int, interfaces := #[7, 4], accessFlags := 1041 }

/-- [Lcom/example/concordat/concordat/TxStatus; -/
def k14 : Class := { plain "[Lcom/example/concordat/concordat/TxStatus;" (some 0) with kind := .array 6 (.object "com/example/concordat/concordat/TxStatus"), interfaces := #[7, 4], accessFlags := 1041 }

def heap : Heap := #[{ cls := 6, slots := #[.ref 1, .ref 2, .ref 3, .ref 4, .ref 5, .ref 6, .ref 7, .ref 8, .ref 9, .ref 10, .ref 11, .ref 12, .ref 13, .ref 14, .ref 15, .null, .null, .null], vm := .statics 6 },
  { cls := 6, slots := #[.null, .int 0, .int 0], vm := .none },
  { cls := 6, slots := #[.null, .int 1, .int 0], vm := .none },
  { cls := 6, slots := #[.null, .int 2, .int 0], vm := .none },
  { cls := 6, slots := #[.null, .int 3, .int 0], vm := .none },
  { cls := 6, slots := #[.null, .int 4, .int 0], vm := .none },
  { cls := 6, slots := #[.null, .int 5, .int 0], vm := .none },
  { cls := 6, slots := #[.null, .int 6, .int 0], vm := .none },
  { cls := 6, slots := #[.null, .int 7, .int 0], vm := .none },
  { cls := 6, slots := #[.null, .int 8, .int 0], vm := .none },
  { cls := 6, slots := #[.null, .int 9, .int 0], vm := .none },
  { cls := 6, slots := #[.null, .int 10, .int 0], vm := .none },
  { cls := 6, slots := #[.null, .int 11, .int 0], vm := .none },
  { cls := 6, slots := #[.null, .int 12, .int 0], vm := .none },
  { cls := 6, slots := #[.null, .int 13, .int 0], vm := .none },
  { cls := 6, slots := #[.null, .int 14, .int 0], vm := .none }]
def classes : Array Class := #[k0, k1, k2, k3, k4, k5, k6, k7, k8, k9, k10, k11, k12, k13, k14]
def interned : List (Array UInt16 × Addr) := []
def slotsUsed : Nat := 63
def theMethod : MethodId := ⟨1, 1⟩
def args0 : Array Value := #[.int 5]
def aboutOver (below : List Frame) : State where
  vm := { classes := classes, interned := interned.toArray }
  heap := heap
  slotsUsed := slotsUsed
  threads := #[{ frames := .invoking theMethod args0 :: below }]
def below0 : List Frame := [.native { method := ⟨0, 0⟩, args := #[] }]
def about1 : State := aboutOver below0
def p0 : Program := .bare "" "" ""
def e0 : Env := launch0.env 0 0 0
theorem w_frames : about1.frames = Frame.invoking theMethod args0 :: below0 := rfl
set_option maxRecDepth 65536 in
theorem w_args : argsFit about1.vm theMethod args0 = true := by decide +kernel
set_option maxRecDepth 65536 in
theorem w_heap : heapFits about1 = true := by decide +kernel
set_option maxRecDepth 65536 in
theorem w_runnable : about1.curStatus? = some .runnable := by decide +kernel
set_option maxRecDepth 65536 in
theorem w_alone : about1.alone = true := by decide +kernel
set_option maxRecDepth 65536 in
theorem w_named : about1.methodNamed? x = some theMethod := by decide +kernel
set_option maxRecDepth 65536 in
theorem w_hears : about1.hears theMethod below0 = true := by decide +kernel
set_option maxRecDepth 65536 in
theorem w_ripe : about1.ripe theMethod args0 below0 = true := by decide +kernel
theorem w_running : about1.status = .running := rfl
set_option maxRecDepth 65536 in
theorem w_room : about1.hasRoom e0.platform room_1 = true :=
  launch0.hasRoom_least _ room_1 (by decide +kernel) (by decide +kernel) (by decide +kernel) (by decide +kernel) (by decide +kernel) (by decide +kernel)
theorem allAtoms_all (ts : List Jvm.Cond) (a : Array Jvm.Value) (st : Jvm.State) : (allAtoms ts).before a st = ts.all (fun c => c.before a st) := by
  induction ts with
  | nil => rfl
  | cons c t ih =>
    show (Jvm.Cond.and c (allAtoms t)).before a st = _
    rw [Jvm.Cond.before_and, ih, List.all_cons]
def words1 : List Jvm.Cond := Jvm.Cond.code x code maxLocals ret :: tables_1
/-- a 'code' word, met by the world's own term for the bytes: nothing is compared byte by byte -/
theorem code_word {y : MethodName} {bytes : ByteArray} {mx : Nat} {rt : Option FieldType} {a : Array Value} {s : State} {m : MethodId} {meth : Method} {c : Code} (h1 : s.methodNamed? y = some m) (h2 : s.vm.method? m = some meth) (h3 : meth.code = some c) (h4 : c.code = bytes)
    (h5 : (c.maxLocals == mx && c.exceptionTable.isEmpty && decide (c.maxStack ≤ mostOperands) && decide (meth.sig.returnType = rt) && !meth.locks && decide (parseMethodDescriptor y.desc = some meth.sig)) = true) : (Jvm.Cond.code y bytes mx rt).before a s = true := by
  simp only [Bool.and_eq_true, beq_iff_eq, Bool.not_eq_true', decide_eq_true_eq] at h5
  obtain ⟨⟨⟨⟨⟨g1, g2⟩, g3⟩, g4⟩, g5⟩, g6⟩ := h5
  simp [Cond.before, Cond.holds, Cond.value, h1, h2, h3, h4, g1, g2, g3, g4, g5, g6]
def isCode : Jvm.Cond → Bool
  | .code _ _ _ _ => true
  | _ => false
theorem all_split {L : List Jvm.Cond} {P : Jvm.Cond → Bool} (h1 : L.all (fun c => isCode c || P c) = true) (h2 : ∀ c ∈ L.filter isCode, P c = true) : L.all P = true := by
  refine List.all_eq_true.mpr fun c hc => ?_
  have h := List.all_eq_true.mp h1 c hc
  rcases Bool.eq_false_or_eq_true (isCode c) with hi | hi
  · exact h2 c (List.mem_filter.mpr ⟨hc, hi⟩)
  · simpa [hi] using h
set_option maxRecDepth 65536 in
theorem w_c0 : (Jvm.Cond.code x code maxLocals ret).before args0 about1 = true := code_word (m := ⟨1, 1⟩) (meth := k1m1) (c := k1c1) (by decide +kernel) rfl rfl rfl (by decide +kernel)
set_option maxRecDepth 65536 in
theorem w_c1 : (Jvm.Cond.code ({ cls := "com/example/concordat/concordat/TxStatus", name := "isCommitted", desc := "()Z" } : Jvm.MethodName) prog_44_method_6_code (1 : Nat) (Option.some Jvm.ClassFile.FieldType.boolean)).before args0 about1 = true := code_word (m := ⟨6, 0⟩) (meth := k6m0) (c := k6c0) (by decide +kernel) rfl rfl rfl (by decide +kernel)
def codes1 : List Jvm.Cond := [Jvm.Cond.code x code maxLocals ret, Jvm.Cond.code ({ cls := "com/example/concordat/concordat/TxStatus", name := "isCommitted", desc := "()Z" } : Jvm.MethodName) prog_44_method_6_code (1 : Nat) (Option.some Jvm.ClassFile.FieldType.boolean)]
set_option maxRecDepth 65536 in
theorem codes_eq : words1.filter isCode = codes1 := rfl
theorem w_codes : ∀ c ∈ words1.filter isCode, c.before args0 about1 = true := by
  rw [codes_eq]
  intro c hc
  simp only [codes1, List.mem_cons, List.not_mem_nil, or_false] at hc
  rcases hc with rfl | rfl
  · exact w_c0
  · exact w_c1
set_option maxRecDepth 65536 in
theorem w_t1 : (words1.take 24).all (fun c => isCode c || c.before args0 about1) = true := by decide +kernel
set_option maxRecDepth 65536 in
theorem w_t2 : (words1.drop 24).all (fun c => isCode c || c.before args0 about1) = true := by decide +kernel
theorem w_tables : (allAtoms (Jvm.Cond.code x code maxLocals ret :: tables_1)).before args0 about1 = true := by
  rw [allAtoms_all]
  show words1.all (fun c => c.before args0 about1) = true
  refine all_split ?_ w_codes
  rw [← List.take_append_drop 24 words1, List.all_append, w_t1, w_t2]
  rfl
set_option maxRecDepth 65536 in
theorem w_case : (Jvm.Cond.and given_1 narrow_1).before args0 about1 = true := by decide +kernel
theorem w_applies : (headSpec (Jvm.Cond.code x code maxLocals ret :: tables_1) room_1).applies x e0.platform about1 = true :=
  (Spec.applies_iff w_frames).mpr ⟨w_running, w_runnable, w_alone, w_named, w_hears, w_ripe, w_room, w_tables⟩
theorem atStart : AtStart classFile x code maxLocals ret World_1 tables_1 room_1 Calls_1 rest_1 Pre_1 launch0 p0 e0 about1 theMethod args0 below0 :=
  ⟨lists_1, trivial, launch0.admits_env _ _ _, launch0.least_env, fairChoices_fair.cas, fairChoices_fair.clock, w_frames, w_args, w_heap, w_applies, trivial, trivial, w_case⟩
end start1
theorem witness_1 : WitnessClaimed_1 := ⟨start1.p0, start1.e0, start1.about1, start1.theMethod, start1.args0, start1.below0, start1.atStart⟩
end Jvm.Pilot.@@N@@
