import JvmDerived
import JvmDerived.Pilot.@@N@@Statement
import JvmDerived.Pilot.@@N@@Code
set_option linter.unusedVariables false
set_option linter.unusedSimpArgs false
namespace Jvm.RoadKit
open Sem ClassFile Op Lib Jvm.Stand Jvm.Free Jvm.LawKit
section New
variable {p : Program} {l : Launch} {e : Env} {R : Room} {s : State} {m : MethodId} {args : Array Value} {below : List Frame} {meth : Method} {c : Code} {T : State} {locs : List Loc} {cells slots : Nat}
theorem retI (X : Stand p l e R s m args below meth c T locs cells slots) (hx : p.tables.exec = Jvm.exec) {pc : Nat} {Ls : Array Slot} {z : Int32} {rest : List Value} (hret : meth.sig.returnType = some .int) (hd : decode c.code pc = .ok (.ireturn, 1)) {fs : List Frame}
    (hl : ∀ (f : JFrame) (acts : List Action), f.method = m → f.locked = none → f.entered = [] → (doReturn e (T.setTop f) acts (some (.int z))).1 = T.setFrames fs) : Steps p.tables e below (T.setTop (mkF m pc Ls (.int z :: rest))) (T.setFrames fs) := by
  have hm' : T.vm.method? m = some meth := X.method'
  have hn : narrow .int (.int z) = .int z := rfl
  show Steps p.tables e below (T.setTop { method := m, pc := pc, locals := Ls, stack := _ :: rest, locked := none }) _
  jvm_step X.here [X.here.top, hx, hd, hm', hret, hn]
  first | (intro acts; rw [hl _ acts rfl rfl rfl]) | rw [hl _ _ rfl rfl rfl]
  exact Steps.refl _
end New
section Own
variable {p : Program} {l : Launch} {e : Env} {R : Room} {s : State} {m : MethodId} {args : Array Value} {below : List Frame} {meth : Method} {c : Code} {T A B : State} {locs : List Loc} {cells slots k n : Nat} {Q : Option Value → Heap → List Loc → Prop}
/-- from A the walk comes to its end, and Q holds there -/
def own_Go (p : Program) (e : Env) (below : List Frame) (s : State) (Q : Option Value → Heap → List Loc → Prop) (k n : Nat) (A : State) : Prop :=
  ∃ s₂ o, Steps p.tables e below A s₂ ∧ s₂.status = .running ∧ Ended s₂ below o ∧ ∃ v L, o = .returned v ∧ Q v s₂.heap L ∧ FrameEnd s o s₂ L k n
theorem own_st (h : ∀ t, Steps p.tables e below B t → Steps p.tables e below A t) (g : own_Go p e below s Q k n B) : own_Go p e below s Q k n A := by
  obtain ⟨s₂, o, h1, r⟩ := g
  exact ⟨s₂, o, h _ h1, r⟩
theorem own_tr (h : Steps p.tables e below A B) (g : own_Go p e below s Q k n B) : own_Go p e below s Q k n A := own_st (fun _ q => h.trans q) g
theorem own_end (X : Stand p l e R s m args below meth c T locs cells slots) (hlk : meth.locks = false) {v : Option Value} (hv : meth.sig.returnType = none → v = none) (hk : cells ≤ k) (hn : slots ≤ n) (hQ : Q v T.heap locs) {g : JFrame}
    (hgo : ∀ fs, (∀ (f : JFrame) (acts : List Action), f.method = m → f.locked = none → f.entered = [] → (doReturn e (T.setTop f) acts v).1 = T.setFrames fs) → Steps p.tables e below (T.setTop g) (T.setFrames fs)) : own_Go p e below s Q k n (T.setTop g) := by
  obtain ⟨fs, hr, hrun, hended, hW, hsame⟩ := X.leave hv hlk
  exact ⟨_, _, hgo fs hr, hrun, hended, v, locs, rfl, hQ, ⟨_, rfl⟩, hW, hsame.mono hk hn⟩
theorem own_retI (X : Stand p l e R s m args below meth c T locs cells slots) (hx : p.tables.exec = Jvm.exec) (hlk : meth.locks = false) {pc : Nat} {Ls : Array Slot} {z : Int32} {rest : List Value} (hret : meth.sig.returnType = some .int) (hd : decode c.code pc = .ok (.ireturn, 1)) (hk : cells ≤ k) (hn : slots ≤ n) (hQ : Q (some (.int z)) T.heap locs) :
    own_Go p e below s Q k n (T.setTop (mkF m pc Ls (.int z :: rest))) := own_end X hlk (fun h => by rw [hret] at h; cases h) hk hn hQ fun fs hr => retI X hx hret hd hr
theorem own_retN (X : Stand p l e R s m args below meth c T locs cells slots) (hx : p.tables.exec = Jvm.exec) (hlk : meth.locks = false) {pc : Nat} {Ls : Array Slot} {z z' : Int32} {rest : List Value} {t : FieldType} (hret : meth.sig.returnType = some t) (ht : t = .boolean ∨ t = .byte ∨ t = .char ∨ t = .short) (hz : nar t z = z') (hd : decode c.code pc = .ok (.ireturn, 1)) (hk : cells ≤ k) (hn : slots ≤ n) (hQ : Q (some (.int z')) T.heap locs) :
    own_Go p e below s Q k n (T.setTop (mkF m pc Ls (.int z :: rest))) := own_end X hlk (v := some (.int (nar t z))) (fun h => by rw [hret] at h; cases h) hk hn (hz ▸ hQ) fun fs hr => retN X hx hret ht hd hr
theorem own_retJ (X : Stand p l e R s m args below meth c T locs cells slots) (hx : p.tables.exec = Jvm.exec) (hlk : meth.locks = false) {pc : Nat} {Ls : Array Slot} {z : Int64} {rest : List Value} (hret : meth.sig.returnType = some .long) (hd : decode c.code pc = .ok (.lreturn, 1)) (hk : cells ≤ k) (hn : slots ≤ n) (hQ : Q (some (.long z)) T.heap locs) :
    own_Go p e below s Q k n (T.setTop (mkF m pc Ls (.long z :: rest))) := own_end X hlk (fun h => by rw [hret] at h; cases h) hk hn hQ fun fs hr => retOut X hx hret rfl (Or.inr (Or.inl ⟨rfl, rfl, _, rfl⟩)) hd hr
theorem own_retA (X : Stand p l e R s m args below meth c T locs cells slots) (hx : p.tables.exec = Jvm.exec) (hlk : meth.locks = false) {pc : Nat} {Ls : Array Slot} {w : Value} {t : FieldType} {rest : List Value} (hret : meth.sig.returnType = some t) (hw : w.isRef = true) (hd : decode c.code pc = .ok (.areturn, 1)) (hk : cells ≤ k) (hn : slots ≤ n) (hQ : Q (some w) T.heap locs) (ht : t.isReference = true := by rfl) :
    own_Go p e below s Q k n (T.setTop (mkF m pc Ls (w :: rest))) := own_end X hlk (fun h => by rw [hret] at h; cases h) hk hn hQ fun fs hr => retOut X hx hret (by cases w <;> first | (cases hw; done) | (cases t <;> first | (cases ht; done) | rfl)) (Or.inr (Or.inr (Or.inr (Or.inr ⟨rfl, ht, hw⟩)))) hd hr
theorem own_ret0 (X : Stand p l e R s m args below meth c T locs cells slots) (hx : p.tables.exec = Jvm.exec) (hlk : meth.locks = false) {pc : Nat} {Ls : Array Slot} (hret : meth.sig.returnType = none) (hd : decode c.code pc = .ok (.return_, 1)) (hk : cells ≤ k) (hn : slots ≤ n) (hQ : Q none T.heap locs) :
    own_Go p e below s Q k n (T.setTop (mkF m pc Ls [])) := own_end X hlk (fun _ => rfl) hk hn hQ fun fs hr => X.returnOut hx hret hd hr
end Own
theorem own_narR {C : String} {v : Value} (h : v.isRef = true) : narrow (.object C) v = v := by cases v <;> first | rfl | (cases h; done)
theorem own_fitR {C : String} {v : Value} (h : v.isRef = true) : fits (.object C) v = true := by cases v <;> first | rfl | (cases h; done)
theorem own_pad (n : Nat) (d : Value) (i : Nat) : (List.replicate n d).getD i d = ([] : List Value).getD i d := by
  have h := pad_rep [] d n i
  simpa using h
end Jvm.RoadKit
namespace Jvm.Pilot.@@N@@
open Jvm Jvm.ClassFile Sem Op Lib Jvm.Free Jvm.Stand Jvm.LawKit Jvm.RoadKit Bundle Jvm.Pilot.@@N@@.Jvm.D
theorem own_eqV {args : Array Value} {first s : State} {o : Option Outcome} {idx : List Nat} {t u : Term} {w : Value} (h : (Cond.eq t u).value args first o s idx = some true) (hu : u.eval args first o idx s = some w) : t.eval args first o idx s = some w := by
  simp only [Cond.value, hu] at h
  cases ht : t.eval args first o idx s with
  | none => simp [ht] at h
  | some v => cases v <;> cases w <;> simp_all

theorem own_rem (x n : Int32) (hn : 0 < n.toInt) : 0 ≤ ((x &&& (2147483647 : Int32)) % n).toInt ∧ ((x &&& (2147483647 : Int32)) % n).toInt < n.toInt := by
  have h : ¬ (x &&& (2147483647 : Int32)) < 0 := by
    rw [XT.and_neg32]
    intro h
    exact absurd h.2 (by decide)
  rw [XT.negI32] at h
  rw [Int32.toInt_mod]
  exact ⟨Int.tmod_nonneg _ (by omega), Int.tmod_lt_of_pos _ hn⟩
theorem own_nat {k : Int32} {n : Nat} (hn : n ≤ 2147483647) (h0 : 0 ≤ k.toInt) (h1 : k.toInt < n) : ∃ i : Nat, i < n ∧ k = i.toInt32 :=
  ⟨k.toInt.toNat, by omega, Int32.toInt_inj.mp (by rw [len_toInt (by omega)]; omega)⟩
theorem own_remN (x m : Int32) (n : Nat) (hm : m.toInt = n) (hn : 0 < n) (hn' : n ≤ 2147483647) : ∃ i : Nat, i < n ∧ (x &&& (2147483647 : Int32)) % m = i.toInt32 := by
  have h := own_rem x m (by omega)
  exact own_nat hn' h.1 (by omega)
def own_of (aT aF aU : Addr) (k : Int32) : Addr := if k = 0 then aF else if k = 1 then aU else aT
def own_or (aT aF aU a b : Addr) : Addr := if a = aT then aT else if b = aT then aT else if a = aU then aU else if b = aU then aU else aF
def own_max (p q : Int32) : Int32 := if p < q then q else p
theorem own_plain {aT aF aU : Addr} (n1 : aT ≠ aF) (n2 : aT ≠ aU) (n3 : aF ≠ aU) (x y : Int32) (hx : ∃ i : Nat, i < 3 ∧ x = i.toInt32) (hy : ∃ i : Nat, i < 3 ∧ y = i.toInt32) :
    own_or aT aF aU (own_of aT aF aU x) (own_of aT aF aU y) = own_of aT aF aU (own_max x y) := by
  obtain ⟨i, hi, rfl⟩ := hx
  obtain ⟨j, hj, rfl⟩ := hy
  have hi' : i = 0 ∨ i = 1 ∨ i = 2 := by omega
  have hj' : j = 0 ∨ j = 1 ∨ j = 2 := by omega
  have e0 : Nat.toInt32 0 = 0 := by decide
  have e1 : Nat.toInt32 1 = 1 := by decide
  have e2 : Nat.toInt32 2 = 2 := by decide
  rcases hi' with rfl | rfl | rfl <;> rcases hj' with rfl | rfl | rfl <;> simp [e0, e1, e2, own_or, own_of, own_max, n1, n2, n3, n1.symm, n2.symm, n3.symm]
theorem own_d_method_2_code_0 : decode method_2_code 0 = .ok (.iload_n 0, 1) := by decide +kernel
theorem own_d_method_2_code_1 : decode method_2_code 1 = .ok (.ifCond .ne 7, 3) := by decide +kernel
theorem own_d_method_2_code_4 : decode method_2_code 4 = .ok (.getstatic 7, 3) := by decide +kernel
theorem own_d_method_2_code_7 : decode method_2_code 7 = .ok (.areturn, 1) := by decide +kernel
theorem own_d_method_2_code_8 : decode method_2_code 8 = .ok (.iload_n 0, 1) := by decide +kernel
theorem own_d_method_2_code_9 : decode method_2_code 9 = .ok (.iconst 1, 1) := by decide +kernel
theorem own_d_method_2_code_10 : decode method_2_code 10 = .ok (.if_icmp .ne 7, 3) := by decide +kernel
theorem own_d_method_2_code_13 : decode method_2_code 13 = .ok (.getstatic 13, 3) := by decide +kernel
theorem own_d_method_2_code_16 : decode method_2_code 16 = .ok (.areturn, 1) := by decide +kernel
theorem own_d_method_2_code_17 : decode method_2_code 17 = .ok (.getstatic 16, 3) := by decide +kernel
theorem own_d_method_2_code_20 : decode method_2_code 20 = .ok (.areturn, 1) := by decide +kernel
theorem own_pn0 : plainFor (⟨"com/example/treeloom/treeloom/harness/qt3/TruthOrPinLaw", "ofRank", "(I)Lcom/example/treeloom/treeloom/harness/qt3/Assertions$Truth;"⟩ : MethodName) = true := by decide +kernel
def own_rm_of_Q (Z : State) (p1 : Int32) (a_TRUE : Addr) (a_FALSE : Addr) (a_UNKNOWN : Addr) (h0 : Heap) (n0 : Nat) (v : Option Value) (h : Heap) (L : List Loc) : Prop := Fr n0 L ∧ v = some (.ref (own_of a_TRUE a_FALSE a_UNKNOWN p1)) ∧ h = h0
theorem own_rm_of_ef (m : MethodId) (p1 : Int32) : entryFrame m #[(.int p1)] 1 = mkF m 0 #[.val (.int p1)] [] := by first | (simp [entryFrame, mkF, argsToLocals, Value.category]; done) | rfl
set_option maxRecDepth 65536 in
set_option maxHeartbeats 40000000 in
theorem own_rm_of (l : Launch) (Z : State) (a0 : Array Value) (hw : ∀ d ∈ tables_1, d.before a0 Z = true) (ws : List Jvm.Cond) (p1 : Int32) (a_TRUE : Addr) (a_FALSE : Addr) (a_UNKNOWN : Addr) (h0 : Heap) (n0 : Nat) (Z0 : n0 ≤ h0.size) (O0 : Old Z n0 h0) (S_a_FALSE : Sta Z Z.heap "com/example/treeloom/treeloom/harness/qt3/Assertions$Truth" "FALSE" "Lcom/example/treeloom/treeloom/harness/qt3/Assertions$Truth;" (.ref a_FALSE)) (S_a_TRUE : Sta Z Z.heap "com/example/treeloom/treeloom/harness/qt3/Assertions$Truth" "TRUE" "Lcom/example/treeloom/treeloom/harness/qt3/Assertions$Truth;" (.ref a_TRUE)) (S_a_UNKNOWN : Sta Z Z.heap "com/example/treeloom/treeloom/harness/qt3/Assertions$Truth" "UNKNOWN" "Lcom/example/treeloom/treeloom/harness/qt3/Assertions$Truth;" (.ref a_UNKNOWN)) :
    MetFree l (⟨"com/example/treeloom/treeloom/harness/qt3/TruthOrPinLaw", "ofRank", "(I)Lcom/example/treeloom/treeloom/harness/qt3/Assertions$Truth;"⟩ : MethodName) (head1 (Jvm.Cond.code (⟨"com/example/treeloom/treeloom/harness/qt3/TruthOrPinLaw", "ofRank", "(I)Lcom/example/treeloom/treeloom/harness/qt3/Assertions$Truth;"⟩ : MethodName) method_2_code 1 (some (.object "com/example/treeloom/treeloom/harness/qt3/Assertions$Truth")) :: ws) ({ frames := 0, cells := 0, slots := 0, locals := 0 } : Room)) (fun a U => a = #[(.int p1)] ∧ Z.Warmed39 U.vm ∧ U.heap = h0) (fun _ _ _ _ _ => True) (fun _ U o U' => ∃ v L, o = .returned v ∧ own_rm_of_Q Z p1 a_TRUE a_FALSE a_UNKNOWN h0 n0 v U'.heap L ∧ FrameEnd U o U' L ({ frames := 0, cells := 0, slots := 0, locals := 0 } : Room).cells ({ frames := 0, cells := 0, slots := 0, locals := 0 } : Room).slots) := by
  refine MetFree.of_bodySF own_pn0 hisR ?_
  intro p e s m args below meth c s₁ Bd hml0 hP hK
  obtain ⟨rfl, hZ, hh⟩ := hP
  have hx := Bd.exec
  have hby := Bd.bytes
  have hml : c.maxLocals = 1 := hml0
  have hlk := BodyLoose.notSynchronized Bd
  have hown : s.vm.findClass "com/example/treeloom/treeloom/harness/qt3/TruthOrPinLaw" = some m.cls := findClass_of_methodNamed Bd.named
  have hnm := (name_of_methodNamed Bd.named Bd.method).1
  have X0 : Stand p l e ({ frames := 0, cells := 0, slots := 0, locals := 0 } : Room) s m #[(.int p1)] below meth c s₁ [] 0 0 := Stand.of_body Bd
  have e0 : s₁.heap = h0 := by rw [← hh, Bd.state]; rfl
  have N0 := Fr.nil n0
  show own_Go p e below s (own_rm_of_Q Z p1 a_TRUE a_FALSE a_UNKNOWN h0 n0) ({ frames := 0, cells := 0, slots := 0, locals := 0 } : Room).cells ({ frames := 0, cells := 0, slots := 0, locals := 0 } : Room).slots (s₁.setTop (entryFrame m #[(.int p1)] 1))
  rw [own_rm_of_ef]
  show own_Go p e below s _ _ _ (s₁.setTop (mkF m 0 #[.val (.int p1)] []))
  refine own_st (fun _ k => XS.iloadN X0.here hx rfl (hb hby own_d_method_2_code_0) rfl k) ?_
  show own_Go p e below s _ _ _ (s₁.setTop (mkF m 1 #[.val (.int p1)] [(.int p1)]))
  by_cases hc1 : p1 = 0
  · refine own_st (fun _ k => XS.ifNo X0.here hx rfl (hb hby own_d_method_2_code_1) rfl (XT.i0_ne_f hc1) k) ?_
    show own_Go p e below s _ _ _ (s₁.setTop (mkF m 4 #[.val (.int p1)] []))
    have F2 : Sta Z h0 "com/example/treeloom/treeloom/harness/qt3/Assertions$Truth" "FALSE" "Lcom/example/treeloom/treeloom/harness/qt3/Assertions$Truth;" (.ref a_FALSE) := S_a_FALSE.ext O0.2
    obtain ⟨T3, X3, e3, st3⟩ := getS2 X0 hx hZ hown (host := "") (Or.inl (hw _ (List.mem_of_getElem? (i := 5) rfl))) Via.refl e0 F2 (g := (mkF m 4 #[.val (.int p1)] [])) rfl (hb hby own_d_method_2_code_4)
    refine own_st st3 ?_
    show own_Go p e below s _ _ _ (T3.setTop (mkF m 7 #[.val (.int p1)] [(.ref a_FALSE)]))
    refine own_retA X3 hx hlk Bd.returns rfl (hb hby own_d_method_2_code_7) (by decide) (by decide) ?_
    rw [e3]
    exact ⟨N0, (by unfold own_of; rw [if_pos hc1]), rfl⟩
  · refine own_st (fun _ k => XS.ifYes X0.here hx rfl (pc0 := 1) (pc' := 8) rfl (hb hby own_d_method_2_code_1) rfl (XT.i0_ne_t hc1) (by decide) (by decide) k) ?_
    show own_Go p e below s _ _ _ (s₁.setTop (mkF m 8 #[.val (.int p1)] []))
    refine own_st (fun _ k => XS.iloadN X0.here hx rfl (hb hby own_d_method_2_code_8) rfl k) ?_
    show own_Go p e below s _ _ _ (s₁.setTop (mkF m 9 #[.val (.int p1)] [(.int p1)]))
    refine own_st (fun _ k => XT.iconstV X0.here hx rfl (1 : Int32) (hb hby own_d_method_2_code_9) (by decide) k) ?_
    show own_Go p e below s _ _ _ (s₁.setTop (mkF m 10 #[.val (.int p1)] [(.int (1 : Int32)), (.int p1)]))
    by_cases hc4 : p1 = (1 : Int32)
    · refine own_st (fun _ k => XS.icmpNo X0.here hx rfl (hb hby own_d_method_2_code_10) rfl (XT.ii_ne_f hc4) k) ?_
      show own_Go p e below s _ _ _ (s₁.setTop (mkF m 13 #[.val (.int p1)] []))
      have F5 : Sta Z h0 "com/example/treeloom/treeloom/harness/qt3/Assertions$Truth" "UNKNOWN" "Lcom/example/treeloom/treeloom/harness/qt3/Assertions$Truth;" (.ref a_UNKNOWN) := S_a_UNKNOWN.ext O0.2
      obtain ⟨T6, X6, e6, st6⟩ := getS2 X0 hx hZ hown (host := "") (Or.inl (hw _ (List.mem_of_getElem? (i := 23) rfl))) Via.refl e0 F5 (g := (mkF m 13 #[.val (.int p1)] [])) rfl (hb hby own_d_method_2_code_13)
      refine own_st st6 ?_
      show own_Go p e below s _ _ _ (T6.setTop (mkF m 16 #[.val (.int p1)] [(.ref a_UNKNOWN)]))
      refine own_retA X6 hx hlk Bd.returns rfl (hb hby own_d_method_2_code_16) (by decide) (by decide) ?_
      rw [e6]
      exact ⟨N0, (by unfold own_of; rw [if_neg hc1, if_pos hc4]), rfl⟩
    · refine own_st (fun _ k => XS.icmpYes X0.here hx rfl (pc0 := 10) (pc' := 17) rfl (hb hby own_d_method_2_code_10) rfl (XT.ii_ne_t hc4) (by decide) (by decide) k) ?_
      show own_Go p e below s _ _ _ (s₁.setTop (mkF m 17 #[.val (.int p1)] []))
      have F7 : Sta Z h0 "com/example/treeloom/treeloom/harness/qt3/Assertions$Truth" "TRUE" "Lcom/example/treeloom/treeloom/harness/qt3/Assertions$Truth;" (.ref a_TRUE) := S_a_TRUE.ext O0.2
      obtain ⟨T8, X8, e8, st8⟩ := getS2 X0 hx hZ hown (host := "") (Or.inl (hw _ (List.mem_of_getElem? (i := 22) rfl))) Via.refl e0 F7 (g := (mkF m 17 #[.val (.int p1)] [])) rfl (hb hby own_d_method_2_code_17)
      refine own_st st8 ?_
      show own_Go p e below s _ _ _ (T8.setTop (mkF m 20 #[.val (.int p1)] [(.ref a_TRUE)]))
      refine own_retA X8 hx hlk Bd.returns rfl (hb hby own_d_method_2_code_20) (by decide) (by decide) ?_
      rw [e8]
      exact ⟨N0, (by unfold own_of; rw [if_neg hc1, if_neg hc4]), rfl⟩
theorem own_d_prog_148_method_4_code_0 : decode prog_148_method_4_code 0 = .ok (.aload_n 0, 1) := by decide +kernel
theorem own_d_prog_148_method_4_code_1 : decode prog_148_method_4_code 1 = .ok (.getstatic 3, 3) := by decide +kernel
theorem own_d_prog_148_method_4_code_4 : decode prog_148_method_4_code 4 = .ok (.if_acmp .eq 10, 3) := by decide +kernel
theorem own_d_prog_148_method_4_code_7 : decode prog_148_method_4_code 7 = .ok (.aload_n 1, 1) := by decide +kernel
theorem own_d_prog_148_method_4_code_8 : decode prog_148_method_4_code 8 = .ok (.getstatic 3, 3) := by decide +kernel
theorem own_d_prog_148_method_4_code_11 : decode prog_148_method_4_code 11 = .ok (.if_acmp .ne 9, 3) := by decide +kernel
theorem own_d_prog_148_method_4_code_14 : decode prog_148_method_4_code 14 = .ok (.getstatic 3, 3) := by decide +kernel
theorem own_d_prog_148_method_4_code_17 : decode prog_148_method_4_code 17 = .ok (.goto 26, 3) := by decide +kernel
theorem own_d_prog_148_method_4_code_20 : decode prog_148_method_4_code 20 = .ok (.aload_n 0, 1) := by decide +kernel
theorem own_d_prog_148_method_4_code_21 : decode prog_148_method_4_code 21 = .ok (.getstatic 10, 3) := by decide +kernel
theorem own_d_prog_148_method_4_code_24 : decode prog_148_method_4_code 24 = .ok (.if_acmp .eq 10, 3) := by decide +kernel
theorem own_d_prog_148_method_4_code_27 : decode prog_148_method_4_code 27 = .ok (.aload_n 1, 1) := by decide +kernel
theorem own_d_prog_148_method_4_code_28 : decode prog_148_method_4_code 28 = .ok (.getstatic 10, 3) := by decide +kernel
theorem own_d_prog_148_method_4_code_31 : decode prog_148_method_4_code 31 = .ok (.if_acmp .ne 9, 3) := by decide +kernel
theorem own_d_prog_148_method_4_code_34 : decode prog_148_method_4_code 34 = .ok (.getstatic 10, 3) := by decide +kernel
theorem own_d_prog_148_method_4_code_37 : decode prog_148_method_4_code 37 = .ok (.goto 6, 3) := by decide +kernel
theorem own_d_prog_148_method_4_code_40 : decode prog_148_method_4_code 40 = .ok (.getstatic 7, 3) := by decide +kernel
theorem own_d_prog_148_method_4_code_43 : decode prog_148_method_4_code 43 = .ok (.areturn, 1) := by decide +kernel
theorem own_pn1 : plainFor (⟨"com/example/treeloom/treeloom/harness/qt3/Assertions$Truth", "or", "(Lcom/example/treeloom/treeloom/harness/qt3/Assertions$Truth;)Lcom/example/treeloom/treeloom/harness/qt3/Assertions$Truth;"⟩ : MethodName) = true := by decide +kernel
def own_rm_or_Q (Z : State) (r1 : Addr) (r2 : Addr) (a_TRUE : Addr) (a_FALSE : Addr) (a_UNKNOWN : Addr) (h0 : Heap) (n0 : Nat) (v : Option Value) (h : Heap) (L : List Loc) : Prop := Fr n0 L ∧ v = some (.ref (own_or a_TRUE a_FALSE a_UNKNOWN r1 r2)) ∧ h = h0
theorem own_rm_or_ef (m : MethodId) (r1 : Addr) (r2 : Addr) : entryFrame m #[(.ref r1), (.ref r2)] 2 = mkF m 0 #[.val (.ref r1), .val (.ref r2)] [] := by first | (simp [entryFrame, mkF, argsToLocals, Value.category]; done) | rfl
set_option maxRecDepth 65536 in
set_option maxHeartbeats 40000000 in
theorem own_rm_or (l : Launch) (Z : State) (a0 : Array Value) (hw : ∀ d ∈ tables_1, d.before a0 Z = true) (ws : List Jvm.Cond) (r1 : Addr) (r2 : Addr) (a_TRUE : Addr) (a_FALSE : Addr) (a_UNKNOWN : Addr) (h0 : Heap) (n0 : Nat) (Z0 : n0 ≤ h0.size) (O0 : Old Z n0 h0) (S_a_FALSE : Sta Z Z.heap "com/example/treeloom/treeloom/harness/qt3/Assertions$Truth" "FALSE" "Lcom/example/treeloom/treeloom/harness/qt3/Assertions$Truth;" (.ref a_FALSE)) (S_a_TRUE : Sta Z Z.heap "com/example/treeloom/treeloom/harness/qt3/Assertions$Truth" "TRUE" "Lcom/example/treeloom/treeloom/harness/qt3/Assertions$Truth;" (.ref a_TRUE)) (S_a_UNKNOWN : Sta Z Z.heap "com/example/treeloom/treeloom/harness/qt3/Assertions$Truth" "UNKNOWN" "Lcom/example/treeloom/treeloom/harness/qt3/Assertions$Truth;" (.ref a_UNKNOWN)) :
    MetFree l (⟨"com/example/treeloom/treeloom/harness/qt3/Assertions$Truth", "or", "(Lcom/example/treeloom/treeloom/harness/qt3/Assertions$Truth;)Lcom/example/treeloom/treeloom/harness/qt3/Assertions$Truth;"⟩ : MethodName) (head1 (Jvm.Cond.code (⟨"com/example/treeloom/treeloom/harness/qt3/Assertions$Truth", "or", "(Lcom/example/treeloom/treeloom/harness/qt3/Assertions$Truth;)Lcom/example/treeloom/treeloom/harness/qt3/Assertions$Truth;"⟩ : MethodName) prog_148_method_4_code 2 (some (.object "com/example/treeloom/treeloom/harness/qt3/Assertions$Truth")) :: ws) ({ frames := 0, cells := 0, slots := 0, locals := 0 } : Room)) (fun a U => a = #[(.ref r1), (.ref r2)] ∧ Z.Warmed39 U.vm ∧ U.heap = h0) (fun _ _ _ _ _ => True) (fun _ U o U' => ∃ v L, o = .returned v ∧ own_rm_or_Q Z r1 r2 a_TRUE a_FALSE a_UNKNOWN h0 n0 v U'.heap L ∧ FrameEnd U o U' L ({ frames := 0, cells := 0, slots := 0, locals := 0 } : Room).cells ({ frames := 0, cells := 0, slots := 0, locals := 0 } : Room).slots) := by
  refine MetFree.of_bodySF own_pn1 hisR ?_
  intro p e s m args below meth c s₁ Bd hml0 hP hK
  obtain ⟨rfl, hZ, hh⟩ := hP
  have hx := Bd.exec
  have hby := Bd.bytes
  have hml : c.maxLocals = 2 := hml0
  have hlk := BodyLoose.notSynchronized Bd
  have hown : s.vm.findClass "com/example/treeloom/treeloom/harness/qt3/Assertions$Truth" = some m.cls := findClass_of_methodNamed Bd.named
  have hnm := (name_of_methodNamed Bd.named Bd.method).1
  have X0 : Stand p l e ({ frames := 0, cells := 0, slots := 0, locals := 0 } : Room) s m #[(.ref r1), (.ref r2)] below meth c s₁ [] 0 0 := Stand.of_body Bd
  have e0 : s₁.heap = h0 := by rw [← hh, Bd.state]; rfl
  have N0 := Fr.nil n0
  show own_Go p e below s (own_rm_or_Q Z r1 r2 a_TRUE a_FALSE a_UNKNOWN h0 n0) ({ frames := 0, cells := 0, slots := 0, locals := 0 } : Room).cells ({ frames := 0, cells := 0, slots := 0, locals := 0 } : Room).slots (s₁.setTop (entryFrame m #[(.ref r1), (.ref r2)] 2))
  rw [own_rm_or_ef]
  show own_Go p e below s _ _ _ (s₁.setTop (mkF m 0 #[.val (.ref r1), .val (.ref r2)] []))
  refine own_st (fun _ k => XS.aloadN X0.here hx rfl (hb hby own_d_prog_148_method_4_code_0) rfl rfl k) ?_
  show own_Go p e below s _ _ _ (s₁.setTop (mkF m 1 #[.val (.ref r1), .val (.ref r2)] [(.ref r1)]))
  have F9 : Sta Z h0 "com/example/treeloom/treeloom/harness/qt3/Assertions$Truth" "TRUE" "Lcom/example/treeloom/treeloom/harness/qt3/Assertions$Truth;" (.ref a_TRUE) := S_a_TRUE.ext O0.2
  obtain ⟨T10, X10, e10, st10⟩ := getS2 X0 hx hZ hown (host := "") (Or.inl (hw _ (List.mem_of_getElem? (i := 17) rfl))) Via.refl e0 F9 (g := (mkF m 1 #[.val (.ref r1), .val (.ref r2)] [(.ref r1)])) rfl (hb hby own_d_prog_148_method_4_code_1)
  refine own_st st10 ?_
  show own_Go p e below s _ _ _ (T10.setTop (mkF m 4 #[.val (.ref r1), .val (.ref r2)] [(.ref a_TRUE), (.ref r1)]))
  by_cases hc11 : r1 = a_TRUE
  · refine own_st (fun _ k => XT.acmpYes X10.here hx rfl (pc0 := 4) (pc' := 14) rfl (hb hby own_d_prog_148_method_4_code_4) rfl rfl rfl (XT.aa_eq_t (congrArg Value.ref hc11)) (by decide) (by decide) k) ?_
    show own_Go p e below s _ _ _ (T10.setTop (mkF m 14 #[.val (.ref r1), .val (.ref r2)] []))
    have F12 : Sta Z h0 "com/example/treeloom/treeloom/harness/qt3/Assertions$Truth" "TRUE" "Lcom/example/treeloom/treeloom/harness/qt3/Assertions$Truth;" (.ref a_TRUE) := S_a_TRUE.ext O0.2
    obtain ⟨T13, X13, e13, st13⟩ := getS2 X10 hx hZ hown (host := "") (Or.inl (hw _ (List.mem_of_getElem? (i := 17) rfl))) Via.refl e10 F12 (g := (mkF m 14 #[.val (.ref r1), .val (.ref r2)] [])) rfl (hb hby own_d_prog_148_method_4_code_14)
    refine own_st st13 ?_
    show own_Go p e below s _ _ _ (T13.setTop (mkF m 17 #[.val (.ref r1), .val (.ref r2)] [(.ref a_TRUE)]))
    refine own_st (fun _ k => XS.goto X13.here hx rfl (pc0 := 17) (pc' := 43) rfl (hb hby own_d_prog_148_method_4_code_17) (by decide) (by decide) k) ?_
    show own_Go p e below s _ _ _ (T13.setTop (mkF m 43 #[.val (.ref r1), .val (.ref r2)] [(.ref a_TRUE)]))
    refine own_retA X13 hx hlk Bd.returns rfl (hb hby own_d_prog_148_method_4_code_43) (by decide) (by decide) ?_
    rw [e13]
    exact ⟨N0, (by unfold own_or; rw [if_pos hc11]), rfl⟩
  · refine own_st (fun _ k => XT.acmpNo X10.here hx rfl (hb hby own_d_prog_148_method_4_code_4) rfl rfl rfl (XT.aa_eq_f (fun q => hc11 (Value.ref.inj q))) k) ?_
    show own_Go p e below s _ _ _ (T10.setTop (mkF m 7 #[.val (.ref r1), .val (.ref r2)] []))
    refine own_st (fun _ k => XS.aloadN X10.here hx rfl (hb hby own_d_prog_148_method_4_code_7) rfl rfl k) ?_
    show own_Go p e below s _ _ _ (T10.setTop (mkF m 8 #[.val (.ref r1), .val (.ref r2)] [(.ref r2)]))
    have F14 : Sta Z h0 "com/example/treeloom/treeloom/harness/qt3/Assertions$Truth" "TRUE" "Lcom/example/treeloom/treeloom/harness/qt3/Assertions$Truth;" (.ref a_TRUE) := S_a_TRUE.ext O0.2
    obtain ⟨T15, X15, e15, st15⟩ := getS2 X10 hx hZ hown (host := "") (Or.inl (hw _ (List.mem_of_getElem? (i := 17) rfl))) Via.refl e10 F14 (g := (mkF m 8 #[.val (.ref r1), .val (.ref r2)] [(.ref r2)])) rfl (hb hby own_d_prog_148_method_4_code_8)
    refine own_st st15 ?_
    show own_Go p e below s _ _ _ (T15.setTop (mkF m 11 #[.val (.ref r1), .val (.ref r2)] [(.ref a_TRUE), (.ref r2)]))
    by_cases hc16 : r2 = a_TRUE
    · refine own_st (fun _ k => XT.acmpNo X15.here hx rfl (hb hby own_d_prog_148_method_4_code_11) rfl rfl rfl (XT.aa_ne_f (congrArg Value.ref hc16)) k) ?_
      show own_Go p e below s _ _ _ (T15.setTop (mkF m 14 #[.val (.ref r1), .val (.ref r2)] []))
      have F17 : Sta Z h0 "com/example/treeloom/treeloom/harness/qt3/Assertions$Truth" "TRUE" "Lcom/example/treeloom/treeloom/harness/qt3/Assertions$Truth;" (.ref a_TRUE) := S_a_TRUE.ext O0.2
      obtain ⟨T18, X18, e18, st18⟩ := getS2 X15 hx hZ hown (host := "") (Or.inl (hw _ (List.mem_of_getElem? (i := 17) rfl))) Via.refl e15 F17 (g := (mkF m 14 #[.val (.ref r1), .val (.ref r2)] [])) rfl (hb hby own_d_prog_148_method_4_code_14)
      refine own_st st18 ?_
      show own_Go p e below s _ _ _ (T18.setTop (mkF m 17 #[.val (.ref r1), .val (.ref r2)] [(.ref a_TRUE)]))
      refine own_st (fun _ k => XS.goto X18.here hx rfl (pc0 := 17) (pc' := 43) rfl (hb hby own_d_prog_148_method_4_code_17) (by decide) (by decide) k) ?_
      show own_Go p e below s _ _ _ (T18.setTop (mkF m 43 #[.val (.ref r1), .val (.ref r2)] [(.ref a_TRUE)]))
      refine own_retA X18 hx hlk Bd.returns rfl (hb hby own_d_prog_148_method_4_code_43) (by decide) (by decide) ?_
      rw [e18]
      exact ⟨N0, (by unfold own_or; rw [if_neg hc11, if_pos hc16]), rfl⟩
    · refine own_st (fun _ k => XT.acmpYes X15.here hx rfl (pc0 := 11) (pc' := 20) rfl (hb hby own_d_prog_148_method_4_code_11) rfl rfl rfl (XT.aa_ne_t (fun q => hc16 (Value.ref.inj q))) (by decide) (by decide) k) ?_
      show own_Go p e below s _ _ _ (T15.setTop (mkF m 20 #[.val (.ref r1), .val (.ref r2)] []))
      refine own_st (fun _ k => XS.aloadN X15.here hx rfl (hb hby own_d_prog_148_method_4_code_20) rfl rfl k) ?_
      show own_Go p e below s _ _ _ (T15.setTop (mkF m 21 #[.val (.ref r1), .val (.ref r2)] [(.ref r1)]))
      have F19 : Sta Z h0 "com/example/treeloom/treeloom/harness/qt3/Assertions$Truth" "UNKNOWN" "Lcom/example/treeloom/treeloom/harness/qt3/Assertions$Truth;" (.ref a_UNKNOWN) := S_a_UNKNOWN.ext O0.2
      obtain ⟨T20, X20, e20, st20⟩ := getS2 X15 hx hZ hown (host := "") (Or.inl (hw _ (List.mem_of_getElem? (i := 19) rfl))) Via.refl e15 F19 (g := (mkF m 21 #[.val (.ref r1), .val (.ref r2)] [(.ref r1)])) rfl (hb hby own_d_prog_148_method_4_code_21)
      refine own_st st20 ?_
      show own_Go p e below s _ _ _ (T20.setTop (mkF m 24 #[.val (.ref r1), .val (.ref r2)] [(.ref a_UNKNOWN), (.ref r1)]))
      by_cases hc21 : r1 = a_UNKNOWN
      · refine own_st (fun _ k => XT.acmpYes X20.here hx rfl (pc0 := 24) (pc' := 34) rfl (hb hby own_d_prog_148_method_4_code_24) rfl rfl rfl (XT.aa_eq_t (congrArg Value.ref hc21)) (by decide) (by decide) k) ?_
        show own_Go p e below s _ _ _ (T20.setTop (mkF m 34 #[.val (.ref r1), .val (.ref r2)] []))
        have F22 : Sta Z h0 "com/example/treeloom/treeloom/harness/qt3/Assertions$Truth" "UNKNOWN" "Lcom/example/treeloom/treeloom/harness/qt3/Assertions$Truth;" (.ref a_UNKNOWN) := S_a_UNKNOWN.ext O0.2
        obtain ⟨T23, X23, e23, st23⟩ := getS2 X20 hx hZ hown (host := "") (Or.inl (hw _ (List.mem_of_getElem? (i := 19) rfl))) Via.refl e20 F22 (g := (mkF m 34 #[.val (.ref r1), .val (.ref r2)] [])) rfl (hb hby own_d_prog_148_method_4_code_34)
        refine own_st st23 ?_
        show own_Go p e below s _ _ _ (T23.setTop (mkF m 37 #[.val (.ref r1), .val (.ref r2)] [(.ref a_UNKNOWN)]))
        refine own_st (fun _ k => XS.goto X23.here hx rfl (pc0 := 37) (pc' := 43) rfl (hb hby own_d_prog_148_method_4_code_37) (by decide) (by decide) k) ?_
        show own_Go p e below s _ _ _ (T23.setTop (mkF m 43 #[.val (.ref r1), .val (.ref r2)] [(.ref a_UNKNOWN)]))
        refine own_retA X23 hx hlk Bd.returns rfl (hb hby own_d_prog_148_method_4_code_43) (by decide) (by decide) ?_
        rw [e23]
        exact ⟨N0, (by unfold own_or; rw [if_neg hc11, if_neg hc16, if_pos hc21]), rfl⟩
      · refine own_st (fun _ k => XT.acmpNo X20.here hx rfl (hb hby own_d_prog_148_method_4_code_24) rfl rfl rfl (XT.aa_eq_f (fun q => hc21 (Value.ref.inj q))) k) ?_
        show own_Go p e below s _ _ _ (T20.setTop (mkF m 27 #[.val (.ref r1), .val (.ref r2)] []))
        refine own_st (fun _ k => XS.aloadN X20.here hx rfl (hb hby own_d_prog_148_method_4_code_27) rfl rfl k) ?_
        show own_Go p e below s _ _ _ (T20.setTop (mkF m 28 #[.val (.ref r1), .val (.ref r2)] [(.ref r2)]))
        have F24 : Sta Z h0 "com/example/treeloom/treeloom/harness/qt3/Assertions$Truth" "UNKNOWN" "Lcom/example/treeloom/treeloom/harness/qt3/Assertions$Truth;" (.ref a_UNKNOWN) := S_a_UNKNOWN.ext O0.2
        obtain ⟨T25, X25, e25, st25⟩ := getS2 X20 hx hZ hown (host := "") (Or.inl (hw _ (List.mem_of_getElem? (i := 19) rfl))) Via.refl e20 F24 (g := (mkF m 28 #[.val (.ref r1), .val (.ref r2)] [(.ref r2)])) rfl (hb hby own_d_prog_148_method_4_code_28)
        refine own_st st25 ?_
        show own_Go p e below s _ _ _ (T25.setTop (mkF m 31 #[.val (.ref r1), .val (.ref r2)] [(.ref a_UNKNOWN), (.ref r2)]))
        by_cases hc26 : r2 = a_UNKNOWN
        · refine own_st (fun _ k => XT.acmpNo X25.here hx rfl (hb hby own_d_prog_148_method_4_code_31) rfl rfl rfl (XT.aa_ne_f (congrArg Value.ref hc26)) k) ?_
          show own_Go p e below s _ _ _ (T25.setTop (mkF m 34 #[.val (.ref r1), .val (.ref r2)] []))
          have F27 : Sta Z h0 "com/example/treeloom/treeloom/harness/qt3/Assertions$Truth" "UNKNOWN" "Lcom/example/treeloom/treeloom/harness/qt3/Assertions$Truth;" (.ref a_UNKNOWN) := S_a_UNKNOWN.ext O0.2
          obtain ⟨T28, X28, e28, st28⟩ := getS2 X25 hx hZ hown (host := "") (Or.inl (hw _ (List.mem_of_getElem? (i := 19) rfl))) Via.refl e25 F27 (g := (mkF m 34 #[.val (.ref r1), .val (.ref r2)] [])) rfl (hb hby own_d_prog_148_method_4_code_34)
          refine own_st st28 ?_
          show own_Go p e below s _ _ _ (T28.setTop (mkF m 37 #[.val (.ref r1), .val (.ref r2)] [(.ref a_UNKNOWN)]))
          refine own_st (fun _ k => XS.goto X28.here hx rfl (pc0 := 37) (pc' := 43) rfl (hb hby own_d_prog_148_method_4_code_37) (by decide) (by decide) k) ?_
          show own_Go p e below s _ _ _ (T28.setTop (mkF m 43 #[.val (.ref r1), .val (.ref r2)] [(.ref a_UNKNOWN)]))
          refine own_retA X28 hx hlk Bd.returns rfl (hb hby own_d_prog_148_method_4_code_43) (by decide) (by decide) ?_
          rw [e28]
          exact ⟨N0, (by unfold own_or; rw [if_neg hc11, if_neg hc16, if_neg hc21, if_pos hc26]), rfl⟩
        · refine own_st (fun _ k => XT.acmpYes X25.here hx rfl (pc0 := 31) (pc' := 40) rfl (hb hby own_d_prog_148_method_4_code_31) rfl rfl rfl (XT.aa_ne_t (fun q => hc26 (Value.ref.inj q))) (by decide) (by decide) k) ?_
          show own_Go p e below s _ _ _ (T25.setTop (mkF m 40 #[.val (.ref r1), .val (.ref r2)] []))
          have F29 : Sta Z h0 "com/example/treeloom/treeloom/harness/qt3/Assertions$Truth" "FALSE" "Lcom/example/treeloom/treeloom/harness/qt3/Assertions$Truth;" (.ref a_FALSE) := S_a_FALSE.ext O0.2
          obtain ⟨T30, X30, e30, st30⟩ := getS2 X25 hx hZ hown (host := "") (Or.inl (hw _ (List.mem_of_getElem? (i := 21) rfl))) Via.refl e25 F29 (g := (mkF m 40 #[.val (.ref r1), .val (.ref r2)] [])) rfl (hb hby own_d_prog_148_method_4_code_40)
          refine own_st st30 ?_
          show own_Go p e below s _ _ _ (T30.setTop (mkF m 43 #[.val (.ref r1), .val (.ref r2)] [(.ref a_FALSE)]))
          refine own_retA X30 hx hlk Bd.returns rfl (hb hby own_d_prog_148_method_4_code_43) (by decide) (by decide) ?_
          rw [e30]
          exact ⟨N0, (by unfold own_or; rw [if_neg hc11, if_neg hc16, if_neg hc21, if_neg hc26]), rfl⟩
theorem own_d_jdk_29_method_65_code_0 : decode jdk_29_method_65_code 0 = .ok (.iload_n 0, 1) := by decide +kernel
theorem own_d_jdk_29_method_65_code_1 : decode jdk_29_method_65_code 1 = .ok (.iload_n 1, 1) := by decide +kernel
theorem own_d_jdk_29_method_65_code_2 : decode jdk_29_method_65_code 2 = .ok (.if_icmp .lt 7, 3) := by decide +kernel
theorem own_d_jdk_29_method_65_code_5 : decode jdk_29_method_65_code 5 = .ok (.iload_n 0, 1) := by decide +kernel
theorem own_d_jdk_29_method_65_code_6 : decode jdk_29_method_65_code 6 = .ok (.goto 4, 3) := by decide +kernel
theorem own_d_jdk_29_method_65_code_9 : decode jdk_29_method_65_code 9 = .ok (.iload_n 1, 1) := by decide +kernel
theorem own_d_jdk_29_method_65_code_10 : decode jdk_29_method_65_code 10 = .ok (.ireturn, 1) := by decide +kernel
theorem own_pn2 : plainFor (⟨"java/lang/Math", "max", "(II)I"⟩ : MethodName) = true := by decide +kernel
def own_rm_max_Q (Z : State) (p1 : Int32) (p2 : Int32) (h0 : Heap) (n0 : Nat) (v : Option Value) (h : Heap) (L : List Loc) : Prop := Fr n0 L ∧ v = some (.int (own_max p1 p2)) ∧ h = h0
theorem own_rm_max_ef (m : MethodId) (p1 : Int32) (p2 : Int32) : entryFrame m #[(.int p1), (.int p2)] 2 = mkF m 0 #[.val (.int p1), .val (.int p2)] [] := by first | (simp [entryFrame, mkF, argsToLocals, Value.category]; done) | rfl
set_option maxRecDepth 65536 in
set_option maxHeartbeats 40000000 in
theorem own_rm_max (l : Launch) (Z : State) (a0 : Array Value) (hw : ∀ d ∈ tables_1, d.before a0 Z = true) (ws : List Jvm.Cond) (p1 : Int32) (p2 : Int32) (h0 : Heap) (n0 : Nat) (Z0 : n0 ≤ h0.size)  :
    MetFree l (⟨"java/lang/Math", "max", "(II)I"⟩ : MethodName) (head1 (Jvm.Cond.code (⟨"java/lang/Math", "max", "(II)I"⟩ : MethodName) jdk_29_method_65_code 2 (some .int) :: ws) ({ frames := 0, cells := 0, slots := 0, locals := 0 } : Room)) (fun a U => a = #[(.int p1), (.int p2)] ∧ Z.Warmed39 U.vm ∧ U.heap = h0) (fun _ _ _ _ _ => True) (fun _ U o U' => ∃ v L, o = .returned v ∧ own_rm_max_Q Z p1 p2 h0 n0 v U'.heap L ∧ FrameEnd U o U' L ({ frames := 0, cells := 0, slots := 0, locals := 0 } : Room).cells ({ frames := 0, cells := 0, slots := 0, locals := 0 } : Room).slots) := by
  refine MetFree.of_bodySF own_pn2 hisR ?_
  intro p e s m args below meth c s₁ Bd hml0 hP hK
  obtain ⟨rfl, hZ, hh⟩ := hP
  have hx := Bd.exec
  have hby := Bd.bytes
  have hml : c.maxLocals = 2 := hml0
  have hlk := BodyLoose.notSynchronized Bd
  have hown : s.vm.findClass "java/lang/Math" = some m.cls := findClass_of_methodNamed Bd.named
  have hnm := (name_of_methodNamed Bd.named Bd.method).1
  have X0 : Stand p l e ({ frames := 0, cells := 0, slots := 0, locals := 0 } : Room) s m #[(.int p1), (.int p2)] below meth c s₁ [] 0 0 := Stand.of_body Bd
  have e0 : s₁.heap = h0 := by rw [← hh, Bd.state]; rfl
  have N0 := Fr.nil n0
  show own_Go p e below s (own_rm_max_Q Z p1 p2 h0 n0) ({ frames := 0, cells := 0, slots := 0, locals := 0 } : Room).cells ({ frames := 0, cells := 0, slots := 0, locals := 0 } : Room).slots (s₁.setTop (entryFrame m #[(.int p1), (.int p2)] 2))
  rw [own_rm_max_ef]
  show own_Go p e below s _ _ _ (s₁.setTop (mkF m 0 #[.val (.int p1), .val (.int p2)] []))
  refine own_st (fun _ k => XS.iloadN X0.here hx rfl (hb hby own_d_jdk_29_method_65_code_0) rfl k) ?_
  show own_Go p e below s _ _ _ (s₁.setTop (mkF m 1 #[.val (.int p1), .val (.int p2)] [(.int p1)]))
  refine own_st (fun _ k => XS.iloadN X0.here hx rfl (hb hby own_d_jdk_29_method_65_code_1) rfl k) ?_
  show own_Go p e below s _ _ _ (s₁.setTop (mkF m 2 #[.val (.int p1), .val (.int p2)] [(.int p2), (.int p1)]))
  by_cases hc31 : p1 < p2
  · refine own_st (fun _ k => XS.icmpYes X0.here hx rfl (pc0 := 2) (pc' := 9) rfl (hb hby own_d_jdk_29_method_65_code_2) rfl (XT.ii_lt_t hc31) (by decide) (by decide) k) ?_
    show own_Go p e below s _ _ _ (s₁.setTop (mkF m 9 #[.val (.int p1), .val (.int p2)] []))
    refine own_st (fun _ k => XS.iloadN X0.here hx rfl (hb hby own_d_jdk_29_method_65_code_9) rfl k) ?_
    show own_Go p e below s _ _ _ (s₁.setTop (mkF m 10 #[.val (.int p1), .val (.int p2)] [(.int p2)]))
    refine own_retI X0 hx hlk Bd.returns (hb hby own_d_jdk_29_method_65_code_10) (by decide) (by decide) ?_
    rw [e0]
    exact ⟨N0, (by unfold own_max; rw [if_pos hc31]), rfl⟩
  · refine own_st (fun _ k => XS.icmpNo X0.here hx rfl (hb hby own_d_jdk_29_method_65_code_2) rfl (XT.ii_lt_f hc31) k) ?_
    show own_Go p e below s _ _ _ (s₁.setTop (mkF m 5 #[.val (.int p1), .val (.int p2)] []))
    refine own_st (fun _ k => XS.iloadN X0.here hx rfl (hb hby own_d_jdk_29_method_65_code_5) rfl k) ?_
    show own_Go p e below s _ _ _ (s₁.setTop (mkF m 6 #[.val (.int p1), .val (.int p2)] [(.int p1)]))
    refine own_st (fun _ k => XS.goto X0.here hx rfl (pc0 := 6) (pc' := 10) rfl (hb hby own_d_jdk_29_method_65_code_6) (by decide) (by decide) k) ?_
    show own_Go p e below s _ _ _ (s₁.setTop (mkF m 10 #[.val (.int p1), .val (.int p2)] [(.int p1)]))
    refine own_retI X0 hx hlk Bd.returns (hb hby own_d_jdk_29_method_65_code_10) (by decide) (by decide) ?_
    rw [e0]
    exact ⟨N0, (by unfold own_max; rw [if_neg hc31]), rfl⟩
theorem own_pn3 : plainFor (⟨"com/example/treeloom/treeloom/harness/qt3/TruthOrPinLaw", "law", "(II)Z"⟩ : MethodName) = true := by decide +kernel
theorem own_pd0 : parseMethodDescriptor "(I)Lcom/example/treeloom/treeloom/harness/qt3/Assertions$Truth;" = some ⟨[.int], some (.object "com/example/treeloom/treeloom/harness/qt3/Assertions$Truth")⟩ := by decide +kernel
theorem own_pd1 : parseMethodDescriptor "(II)I" = some ⟨[.int, .int], some .int⟩ := by decide +kernel
theorem own_pd2 : parseMethodDescriptor "(Lcom/example/treeloom/treeloom/harness/qt3/Assertions$Truth;)Lcom/example/treeloom/treeloom/harness/qt3/Assertions$Truth;" = some ⟨[(.object "com/example/treeloom/treeloom/harness/qt3/Assertions$Truth")], some (.object "com/example/treeloom/treeloom/harness/qt3/Assertions$Truth")⟩ := by decide +kernel
def own_law_Q (Z : State) (n0 : Nat) (v : Option Value) (h : Heap) (L : List Loc) : Prop := Fr n0 L ∧ v = some (.int 1)
theorem own_law_ef (m : MethodId) (p1 : Int32) (p2 : Int32) : entryFrame m #[(.int p1), (.int p2)] maxLocals = mkF m 0 #[.val (.int p1), .val (.int p2), .unset, .unset, .unset, .unset, .unset, .unset] [] := by first | (simp [entryFrame, mkF, argsToLocals, Value.category, maxLocals]; done) | rfl
set_option maxRecDepth 65536 in
set_option maxHeartbeats 40000000 in
theorem own_law (l : Launch) (Z : State) (a0 : Array Value) (hw : ∀ d ∈ tables_1, d.before a0 Z = true) (ws : List Jvm.Cond) (p1 : Int32) (p2 : Int32) (a_FALSE : Addr) (a_TRUE : Addr) (a_UNKNOWN : Addr) (h0 : Heap) (n0 : Nat) (Z0 : n0 ≤ h0.size) (O0 : Old Z n0 h0) (Ex_a_FALSE : Exa Z Z.heap a_FALSE "com/example/treeloom/treeloom/harness/qt3/Assertions$Truth") (S_a_FALSE : Sta Z Z.heap "com/example/treeloom/treeloom/harness/qt3/Assertions$Truth" "FALSE" "Lcom/example/treeloom/treeloom/harness/qt3/Assertions$Truth;" (.ref a_FALSE)) (Ex_a_TRUE : Exa Z Z.heap a_TRUE "com/example/treeloom/treeloom/harness/qt3/Assertions$Truth") (S_a_TRUE : Sta Z Z.heap "com/example/treeloom/treeloom/harness/qt3/Assertions$Truth" "TRUE" "Lcom/example/treeloom/treeloom/harness/qt3/Assertions$Truth;" (.ref a_TRUE)) (F_FALSE_ordinal : Fld Z Z.heap a_FALSE "java/lang/Enum" "ordinal" "I" (.int (1 : Int32))) (F_TRUE_ordinal : Fld Z Z.heap a_TRUE "java/lang/Enum" "ordinal" "I" (.int (0 : Int32))) (Ex_a_UNKNOWN : Exa Z Z.heap a_UNKNOWN "com/example/treeloom/treeloom/harness/qt3/Assertions$Truth") (S_a_UNKNOWN : Sta Z Z.heap "com/example/treeloom/treeloom/harness/qt3/Assertions$Truth" "UNKNOWN" "Lcom/example/treeloom/treeloom/harness/qt3/Assertions$Truth;" (.ref a_UNKNOWN)) (F_UNKNOWN_ordinal : Fld Z Z.heap a_UNKNOWN "java/lang/Enum" "ordinal" "I" (.int (2 : Int32))) :
    MetFree l x (head1 (Jvm.Cond.code x code maxLocals ret :: ws) room_1) (fun a U => a = #[(.int p1), (.int p2)] ∧ Z.Warmed39 U.vm ∧ U.heap = h0) (fun _ _ _ _ _ => True) (fun _ U o U' => ∃ v L, o = .returned v ∧ own_law_Q Z n0 v U'.heap L ∧ FrameEnd U o U' L 0 0) := by
  refine MetFree.of_bodySF own_pn3 hisR ?_
  intro p e s m args below meth c s₁ Bd hml0 hP hK
  obtain ⟨rfl, hZ, hh⟩ := hP
  have hx := Bd.exec
  have hby := Bd.bytes
  have hml : c.maxLocals = 8 := hml0
  have hlk := BodyLoose.notSynchronized Bd
  have hown : s.vm.findClass "com/example/treeloom/treeloom/harness/qt3/TruthOrPinLaw" = some m.cls := findClass_of_methodNamed Bd.named
  have hnm := (name_of_methodNamed Bd.named Bd.method).1
  have X0 : Stand p l e room_1 s m #[(.int p1), (.int p2)] below meth c s₁ [] 0 0 := Stand.of_body Bd
  have e0 : s₁.heap = h0 := by rw [← hh, Bd.state]; rfl
  have N0 := Fr.nil n0
  have ne1 := Fld.ne F_TRUE_ordinal F_FALSE_ordinal (by decide)
  have ne2 := Fld.ne F_TRUE_ordinal F_UNKNOWN_ordinal (by decide)
  have ne3 := Fld.ne F_FALSE_ordinal F_UNKNOWN_ordinal (by decide)
  have r1 := own_remN p1 3 3 (by decide) (by decide) (by decide)
  have r2 := own_remN p2 3 3 (by decide) (by decide) (by decide)
  have hp := own_plain ne1 ne2 ne3 _ _ r1 r2
  show own_Go p e below s (own_law_Q Z n0) 0 0 (s₁.setTop (entryFrame m #[(.int p1), (.int p2)] maxLocals))
  rw [own_law_ef]
  show own_Go p e below s _ _ _ (s₁.setTop (mkF m 0 #[.val (.int p1), .val (.int p2), .unset, .unset, .unset, .unset, .unset, .unset] []))
  refine own_st (fun _ k => XS.iloadN X0.here hx rfl (hb hby at_0) rfl k) ?_
  show own_Go p e below s _ _ _ (s₁.setTop (mkF m 1 #[.val (.int p1), .val (.int p2), .unset, .unset, .unset, .unset, .unset, .unset] [(.int p1)]))
  refine own_st (fun _ k => X0.ldcI hx hown (mvT hZ (hw _ (List.mem_of_getElem? (i := 0) rfl))) rfl (hb hby at_1) k) ?_
  show own_Go p e below s _ _ _ (s₁.setTop (mkF m 3 #[.val (.int p1), .val (.int p2), .unset, .unset, .unset, .unset, .unset, .unset] [(.int (2147483647 : Int32)), (.int p1)]))
  refine own_st (fun _ k => XS.iand X0.here hx rfl (hb hby at_3) rfl k) ?_
  show own_Go p e below s _ _ _ (s₁.setTop (mkF m 4 #[.val (.int p1), .val (.int p2), .unset, .unset, .unset, .unset, .unset, .unset] [(.int (p1 &&& (2147483647 : Int32)))]))
  refine own_st (fun _ k => XT.iconstV X0.here hx rfl (3 : Int32) (hb hby at_4) (by decide) k) ?_
  show own_Go p e below s _ _ _ (s₁.setTop (mkF m 5 #[.val (.int p1), .val (.int p2), .unset, .unset, .unset, .unset, .unset, .unset] [(.int (3 : Int32)), (.int (p1 &&& (2147483647 : Int32)))]))
  refine own_st (fun _ k => iremM X0 hx rfl (hb hby at_5) rfl (by decide) k) ?_
  show own_Go p e below s _ _ _ (s₁.setTop (mkF m 6 #[.val (.int p1), .val (.int p2), .unset, .unset, .unset, .unset, .unset, .unset] [(.int ((p1 &&& (2147483647 : Int32)) % (3 : Int32)))]))
  refine own_st (fun _ k => XS.istoreN X0.here hx rfl (hb hby at_6) rfl (l' := #[.val (.int p1), .val (.int p2), .val (.int ((p1 &&& (2147483647 : Int32)) % (3 : Int32))), .unset, .unset, .unset, .unset, .unset]) rfl k) ?_
  show own_Go p e below s _ _ _ (s₁.setTop (mkF m 7 #[.val (.int p1), .val (.int p2), .val (.int ((p1 &&& (2147483647 : Int32)) % (3 : Int32))), .unset, .unset, .unset, .unset, .unset] []))
  refine own_st (fun _ k => XS.iloadN X0.here hx rfl (hb hby at_7) rfl k) ?_
  show own_Go p e below s _ _ _ (s₁.setTop (mkF m 8 #[.val (.int p1), .val (.int p2), .val (.int ((p1 &&& (2147483647 : Int32)) % (3 : Int32))), .unset, .unset, .unset, .unset, .unset] [(.int p2)]))
  refine own_st (fun _ k => X0.ldcI hx hown (mvT hZ (hw _ (List.mem_of_getElem? (i := 0) rfl))) rfl (hb hby at_8) k) ?_
  show own_Go p e below s _ _ _ (s₁.setTop (mkF m 10 #[.val (.int p1), .val (.int p2), .val (.int ((p1 &&& (2147483647 : Int32)) % (3 : Int32))), .unset, .unset, .unset, .unset, .unset] [(.int (2147483647 : Int32)), (.int p2)]))
  refine own_st (fun _ k => XS.iand X0.here hx rfl (hb hby at_10) rfl k) ?_
  show own_Go p e below s _ _ _ (s₁.setTop (mkF m 11 #[.val (.int p1), .val (.int p2), .val (.int ((p1 &&& (2147483647 : Int32)) % (3 : Int32))), .unset, .unset, .unset, .unset, .unset] [(.int (p2 &&& (2147483647 : Int32)))]))
  refine own_st (fun _ k => XT.iconstV X0.here hx rfl (3 : Int32) (hb hby at_11) (by decide) k) ?_
  show own_Go p e below s _ _ _ (s₁.setTop (mkF m 12 #[.val (.int p1), .val (.int p2), .val (.int ((p1 &&& (2147483647 : Int32)) % (3 : Int32))), .unset, .unset, .unset, .unset, .unset] [(.int (3 : Int32)), (.int (p2 &&& (2147483647 : Int32)))]))
  refine own_st (fun _ k => iremM X0 hx rfl (hb hby at_12) rfl (by decide) k) ?_
  show own_Go p e below s _ _ _ (s₁.setTop (mkF m 13 #[.val (.int p1), .val (.int p2), .val (.int ((p1 &&& (2147483647 : Int32)) % (3 : Int32))), .unset, .unset, .unset, .unset, .unset] [(.int ((p2 &&& (2147483647 : Int32)) % (3 : Int32)))]))
  refine own_st (fun _ k => XS.istoreN X0.here hx rfl (hb hby at_13) rfl (l' := #[.val (.int p1), .val (.int p2), .val (.int ((p1 &&& (2147483647 : Int32)) % (3 : Int32))), .val (.int ((p2 &&& (2147483647 : Int32)) % (3 : Int32))), .unset, .unset, .unset, .unset]) rfl k) ?_
  show own_Go p e below s _ _ _ (s₁.setTop (mkF m 14 #[.val (.int p1), .val (.int p2), .val (.int ((p1 &&& (2147483647 : Int32)) % (3 : Int32))), .val (.int ((p2 &&& (2147483647 : Int32)) % (3 : Int32))), .unset, .unset, .unset, .unset] []))
  refine own_st (fun _ k => XS.iloadN X0.here hx rfl (hb hby at_14) rfl k) ?_
  show own_Go p e below s _ _ _ (s₁.setTop (mkF m 15 #[.val (.int p1), .val (.int p2), .val (.int ((p1 &&& (2147483647 : Int32)) % (3 : Int32))), .val (.int ((p2 &&& (2147483647 : Int32)) % (3 : Int32))), .unset, .unset, .unset, .unset] [(.int ((p1 &&& (2147483647 : Int32)) % (3 : Int32)))]))
  obtain ⟨_, _, ⟨T32, L32, k32, n32⟩, -, X32, ⟨Lc32, hQ32, l32, y32, z32⟩, st32⟩ := Jvm.LawKit.callS X0 hx (y := (⟨"com/example/treeloom/treeloom/harness/qt3/TruthOrPinLaw", "ofRank", "(I)Lcom/example/treeloom/treeloom/harness/qt3/Assertions$Truth;"⟩ : MethodName)) hown (mvT hZ (hw _ (List.mem_of_getElem? (i := 1) rfl))) (mvT hZ (hw _ (List.mem_of_getElem? (i := 2) rfl))) (mvT hZ (hw _ (List.mem_of_getElem? (i := 3) rfl))) (mvT hZ (hw _ (List.mem_of_getElem? (i := 4) rfl))) (by decide) (backOf (W := 0) (own_rm_of l Z a0 hw [] ((p1 &&& (2147483647 : Int32)) % (3 : Int32)) a_TRUE a_FALSE a_UNKNOWN h0 n0 Z0 O0 S_a_FALSE S_a_TRUE S_a_UNKNOWN) hZ (hw _ (List.mem_of_getElem? (i := 4) rfl)) (hw _ (List.mem_of_getElem? (i := 3) rfl)) (by decide) (by decide)) (g := (mkF m 15 #[.val (.int p1), .val (.int p2), .val (.int ((p1 &&& (2147483647 : Int32)) % (3 : Int32))), .val (.int ((p2 &&& (2147483647 : Int32)) % (3 : Int32))), .unset, .unset, .unset, .unset] [(.int ((p1 &&& (2147483647 : Int32)) % (3 : Int32)))])) rfl (by rw [hml]; rfl) (argsL := [(.int ((p1 &&& (2147483647 : Int32)) % (3 : Int32)))]) (rest := []) (lenOf own_pd0 rfl) rfl (by show 2 * 0 + _ ≤ _; exact Nat.le_of_eq rfl) (hb hby at_15) (fun _ _ => ⟨rfl, e0, (by decide : 0 + 0 ≤ _), (by decide : 0 + 0 ≤ _)⟩)
  dsimp only [Pt.U, Pt.locs, Pt.cells, Pt.slots] at X32 l32 y32 z32 st32 hQ32
  subst l32 y32 z32
  obtain ⟨N32q, rfl, eh32⟩ := hQ32
  have N33 := Fr.app N0 N32q
  refine own_st st32 ?_
  show own_Go p e below s _ _ _ (T32.setTop (mkF m 18 #[.val (.int p1), .val (.int p2), .val (.int ((p1 &&& (2147483647 : Int32)) % (3 : Int32))), .val (.int ((p2 &&& (2147483647 : Int32)) % (3 : Int32))), .unset, .unset, .unset, .unset] [(.ref (own_of a_TRUE a_FALSE a_UNKNOWN ((p1 &&& (2147483647 : Int32)) % (3 : Int32))))]))
  have Ex34 : Exa Z Z.heap (own_of a_TRUE a_FALSE a_UNKNOWN ((p1 &&& (2147483647 : Int32)) % (3 : Int32))) "com/example/treeloom/treeloom/harness/qt3/Assertions$Truth" := by unfold own_of; split <;> first | exact Ex_a_FALSE | (split <;> first | exact Ex_a_UNKNOWN | exact Ex_a_TRUE)
  refine own_st (fun _ k => XS.astore X32.here hx rfl (hb hby at_18) rfl rfl (l' := #[.val (.int p1), .val (.int p2), .val (.int ((p1 &&& (2147483647 : Int32)) % (3 : Int32))), .val (.int ((p2 &&& (2147483647 : Int32)) % (3 : Int32))), .val (.ref (own_of a_TRUE a_FALSE a_UNKNOWN ((p1 &&& (2147483647 : Int32)) % (3 : Int32)))), .unset, .unset, .unset]) rfl k) ?_
  show own_Go p e below s _ _ _ (T32.setTop (mkF m 20 #[.val (.int p1), .val (.int p2), .val (.int ((p1 &&& (2147483647 : Int32)) % (3 : Int32))), .val (.int ((p2 &&& (2147483647 : Int32)) % (3 : Int32))), .val (.ref (own_of a_TRUE a_FALSE a_UNKNOWN ((p1 &&& (2147483647 : Int32)) % (3 : Int32)))), .unset, .unset, .unset] []))
  refine own_st (fun _ k => XS.iloadN X32.here hx rfl (hb hby at_20) rfl k) ?_
  show own_Go p e below s _ _ _ (T32.setTop (mkF m 21 #[.val (.int p1), .val (.int p2), .val (.int ((p1 &&& (2147483647 : Int32)) % (3 : Int32))), .val (.int ((p2 &&& (2147483647 : Int32)) % (3 : Int32))), .val (.ref (own_of a_TRUE a_FALSE a_UNKNOWN ((p1 &&& (2147483647 : Int32)) % (3 : Int32)))), .unset, .unset, .unset] [(.int ((p2 &&& (2147483647 : Int32)) % (3 : Int32)))]))
  obtain ⟨_, _, ⟨T35, L35, k35, n35⟩, -, X35, ⟨Lc35, hQ35, l35, y35, z35⟩, st35⟩ := Jvm.LawKit.callS X32 hx (y := (⟨"com/example/treeloom/treeloom/harness/qt3/TruthOrPinLaw", "ofRank", "(I)Lcom/example/treeloom/treeloom/harness/qt3/Assertions$Truth;"⟩ : MethodName)) hown (mvT hZ (hw _ (List.mem_of_getElem? (i := 1) rfl))) (mvT hZ (hw _ (List.mem_of_getElem? (i := 2) rfl))) (mvT hZ (hw _ (List.mem_of_getElem? (i := 3) rfl))) (mvT hZ (hw _ (List.mem_of_getElem? (i := 4) rfl))) (by decide) (backOf (W := 0) (own_rm_of l Z a0 hw [] ((p2 &&& (2147483647 : Int32)) % (3 : Int32)) a_TRUE a_FALSE a_UNKNOWN h0 n0 Z0 O0 S_a_FALSE S_a_TRUE S_a_UNKNOWN) hZ (hw _ (List.mem_of_getElem? (i := 4) rfl)) (hw _ (List.mem_of_getElem? (i := 3) rfl)) (by decide) (by decide)) (g := (mkF m 21 #[.val (.int p1), .val (.int p2), .val (.int ((p1 &&& (2147483647 : Int32)) % (3 : Int32))), .val (.int ((p2 &&& (2147483647 : Int32)) % (3 : Int32))), .val (.ref (own_of a_TRUE a_FALSE a_UNKNOWN ((p1 &&& (2147483647 : Int32)) % (3 : Int32)))), .unset, .unset, .unset] [(.int ((p2 &&& (2147483647 : Int32)) % (3 : Int32)))])) rfl (by rw [hml]; rfl) (argsL := [(.int ((p2 &&& (2147483647 : Int32)) % (3 : Int32)))]) (rest := []) (lenOf own_pd0 rfl) rfl (by show 2 * 0 + _ ≤ _; exact Nat.le_of_eq rfl) (hb hby at_21) (fun _ _ => ⟨rfl, eh32, (by decide : 0 + 0 ≤ _), (by decide : 0 + 0 ≤ _)⟩)
  dsimp only [Pt.U, Pt.locs, Pt.cells, Pt.slots] at X35 l35 y35 z35 st35 hQ35
  subst l35 y35 z35
  obtain ⟨N35q, rfl, eh35⟩ := hQ35
  have N36 := Fr.app N33 N35q
  refine own_st st35 ?_
  show own_Go p e below s _ _ _ (T35.setTop (mkF m 24 #[.val (.int p1), .val (.int p2), .val (.int ((p1 &&& (2147483647 : Int32)) % (3 : Int32))), .val (.int ((p2 &&& (2147483647 : Int32)) % (3 : Int32))), .val (.ref (own_of a_TRUE a_FALSE a_UNKNOWN ((p1 &&& (2147483647 : Int32)) % (3 : Int32)))), .unset, .unset, .unset] [(.ref (own_of a_TRUE a_FALSE a_UNKNOWN ((p2 &&& (2147483647 : Int32)) % (3 : Int32))))]))
  have Ex37 : Exa Z Z.heap (own_of a_TRUE a_FALSE a_UNKNOWN ((p2 &&& (2147483647 : Int32)) % (3 : Int32))) "com/example/treeloom/treeloom/harness/qt3/Assertions$Truth" := by unfold own_of; split <;> first | exact Ex_a_FALSE | (split <;> first | exact Ex_a_UNKNOWN | exact Ex_a_TRUE)
  refine own_st (fun _ k => XS.astore X35.here hx rfl (hb hby at_24) rfl rfl (l' := #[.val (.int p1), .val (.int p2), .val (.int ((p1 &&& (2147483647 : Int32)) % (3 : Int32))), .val (.int ((p2 &&& (2147483647 : Int32)) % (3 : Int32))), .val (.ref (own_of a_TRUE a_FALSE a_UNKNOWN ((p1 &&& (2147483647 : Int32)) % (3 : Int32)))), .val (.ref (own_of a_TRUE a_FALSE a_UNKNOWN ((p2 &&& (2147483647 : Int32)) % (3 : Int32)))), .unset, .unset]) rfl k) ?_
  show own_Go p e below s _ _ _ (T35.setTop (mkF m 26 #[.val (.int p1), .val (.int p2), .val (.int ((p1 &&& (2147483647 : Int32)) % (3 : Int32))), .val (.int ((p2 &&& (2147483647 : Int32)) % (3 : Int32))), .val (.ref (own_of a_TRUE a_FALSE a_UNKNOWN ((p1 &&& (2147483647 : Int32)) % (3 : Int32)))), .val (.ref (own_of a_TRUE a_FALSE a_UNKNOWN ((p2 &&& (2147483647 : Int32)) % (3 : Int32)))), .unset, .unset] []))
  refine own_st (fun _ k => XS.iloadN X35.here hx rfl (hb hby at_26) rfl k) ?_
  show own_Go p e below s _ _ _ (T35.setTop (mkF m 27 #[.val (.int p1), .val (.int p2), .val (.int ((p1 &&& (2147483647 : Int32)) % (3 : Int32))), .val (.int ((p2 &&& (2147483647 : Int32)) % (3 : Int32))), .val (.ref (own_of a_TRUE a_FALSE a_UNKNOWN ((p1 &&& (2147483647 : Int32)) % (3 : Int32)))), .val (.ref (own_of a_TRUE a_FALSE a_UNKNOWN ((p2 &&& (2147483647 : Int32)) % (3 : Int32)))), .unset, .unset] [(.int ((p1 &&& (2147483647 : Int32)) % (3 : Int32)))]))
  refine own_st (fun _ k => XS.iloadN X35.here hx rfl (hb hby at_27) rfl k) ?_
  show own_Go p e below s _ _ _ (T35.setTop (mkF m 28 #[.val (.int p1), .val (.int p2), .val (.int ((p1 &&& (2147483647 : Int32)) % (3 : Int32))), .val (.int ((p2 &&& (2147483647 : Int32)) % (3 : Int32))), .val (.ref (own_of a_TRUE a_FALSE a_UNKNOWN ((p1 &&& (2147483647 : Int32)) % (3 : Int32)))), .val (.ref (own_of a_TRUE a_FALSE a_UNKNOWN ((p2 &&& (2147483647 : Int32)) % (3 : Int32)))), .unset, .unset] [(.int ((p2 &&& (2147483647 : Int32)) % (3 : Int32))), (.int ((p1 &&& (2147483647 : Int32)) % (3 : Int32)))]))
  obtain ⟨_, _, ⟨T38, L38, k38, n38⟩, -, X38, ⟨Lc38, hQ38, l38, y38, z38⟩, st38⟩ := Jvm.LawKit.callS X35 hx (y := (⟨"java/lang/Math", "max", "(II)I"⟩ : MethodName)) hown (mvT hZ (hw _ (List.mem_of_getElem? (i := 8) rfl))) (mvT hZ (hw _ (List.mem_of_getElem? (i := 9) rfl))) (mvT hZ (hw _ (List.mem_of_getElem? (i := 10) rfl))) (mvT hZ (hw _ (List.mem_of_getElem? (i := 11) rfl))) (by decide) (backOf (W := 0) (own_rm_max l Z a0 hw [] ((p1 &&& (2147483647 : Int32)) % (3 : Int32)) ((p2 &&& (2147483647 : Int32)) % (3 : Int32)) h0 n0 Z0 ) hZ (hw _ (List.mem_of_getElem? (i := 11) rfl)) (hw _ (List.mem_of_getElem? (i := 10) rfl)) (by decide) (by decide)) (g := (mkF m 28 #[.val (.int p1), .val (.int p2), .val (.int ((p1 &&& (2147483647 : Int32)) % (3 : Int32))), .val (.int ((p2 &&& (2147483647 : Int32)) % (3 : Int32))), .val (.ref (own_of a_TRUE a_FALSE a_UNKNOWN ((p1 &&& (2147483647 : Int32)) % (3 : Int32)))), .val (.ref (own_of a_TRUE a_FALSE a_UNKNOWN ((p2 &&& (2147483647 : Int32)) % (3 : Int32)))), .unset, .unset] [(.int ((p2 &&& (2147483647 : Int32)) % (3 : Int32))), (.int ((p1 &&& (2147483647 : Int32)) % (3 : Int32)))])) rfl (by rw [hml]; rfl) (argsL := [(.int ((p1 &&& (2147483647 : Int32)) % (3 : Int32))), (.int ((p2 &&& (2147483647 : Int32)) % (3 : Int32)))]) (rest := []) (lenOf own_pd1 rfl) rfl (by show 2 * 0 + _ ≤ _; exact Nat.le_of_eq rfl) (hb hby at_28) (fun _ _ => ⟨rfl, eh35, (by decide : 0 + 0 ≤ _), (by decide : 0 + 0 ≤ _)⟩)
  dsimp only [Pt.U, Pt.locs, Pt.cells, Pt.slots] at X38 l38 y38 z38 st38 hQ38
  subst l38 y38 z38
  obtain ⟨N38q, rfl, eh38⟩ := hQ38
  have N39 := Fr.app N36 N38q
  refine own_st st38 ?_
  show own_Go p e below s _ _ _ (T38.setTop (mkF m 31 #[.val (.int p1), .val (.int p2), .val (.int ((p1 &&& (2147483647 : Int32)) % (3 : Int32))), .val (.int ((p2 &&& (2147483647 : Int32)) % (3 : Int32))), .val (.ref (own_of a_TRUE a_FALSE a_UNKNOWN ((p1 &&& (2147483647 : Int32)) % (3 : Int32)))), .val (.ref (own_of a_TRUE a_FALSE a_UNKNOWN ((p2 &&& (2147483647 : Int32)) % (3 : Int32)))), .unset, .unset] [(.int (own_max ((p1 &&& (2147483647 : Int32)) % (3 : Int32)) ((p2 &&& (2147483647 : Int32)) % (3 : Int32))))]))
  obtain ⟨_, _, ⟨T40, L40, k40, n40⟩, -, X40, ⟨Lc40, hQ40, l40, y40, z40⟩, st40⟩ := Jvm.LawKit.callS X38 hx (y := (⟨"com/example/treeloom/treeloom/harness/qt3/TruthOrPinLaw", "ofRank", "(I)Lcom/example/treeloom/treeloom/harness/qt3/Assertions$Truth;"⟩ : MethodName)) hown (mvT hZ (hw _ (List.mem_of_getElem? (i := 1) rfl))) (mvT hZ (hw _ (List.mem_of_getElem? (i := 2) rfl))) (mvT hZ (hw _ (List.mem_of_getElem? (i := 3) rfl))) (mvT hZ (hw _ (List.mem_of_getElem? (i := 4) rfl))) (by decide) (backOf (W := 0) (own_rm_of l Z a0 hw [] (own_max ((p1 &&& (2147483647 : Int32)) % (3 : Int32)) ((p2 &&& (2147483647 : Int32)) % (3 : Int32))) a_TRUE a_FALSE a_UNKNOWN h0 n0 Z0 O0 S_a_FALSE S_a_TRUE S_a_UNKNOWN) hZ (hw _ (List.mem_of_getElem? (i := 4) rfl)) (hw _ (List.mem_of_getElem? (i := 3) rfl)) (by decide) (by decide)) (g := (mkF m 31 #[.val (.int p1), .val (.int p2), .val (.int ((p1 &&& (2147483647 : Int32)) % (3 : Int32))), .val (.int ((p2 &&& (2147483647 : Int32)) % (3 : Int32))), .val (.ref (own_of a_TRUE a_FALSE a_UNKNOWN ((p1 &&& (2147483647 : Int32)) % (3 : Int32)))), .val (.ref (own_of a_TRUE a_FALSE a_UNKNOWN ((p2 &&& (2147483647 : Int32)) % (3 : Int32)))), .unset, .unset] [(.int (own_max ((p1 &&& (2147483647 : Int32)) % (3 : Int32)) ((p2 &&& (2147483647 : Int32)) % (3 : Int32))))])) rfl (by rw [hml]; rfl) (argsL := [(.int (own_max ((p1 &&& (2147483647 : Int32)) % (3 : Int32)) ((p2 &&& (2147483647 : Int32)) % (3 : Int32))))]) (rest := []) (lenOf own_pd0 rfl) rfl (by show 2 * 0 + _ ≤ _; exact Nat.le_of_eq rfl) (hb hby at_31) (fun _ _ => ⟨rfl, eh38, (by decide : 0 + 0 ≤ _), (by decide : 0 + 0 ≤ _)⟩)
  dsimp only [Pt.U, Pt.locs, Pt.cells, Pt.slots] at X40 l40 y40 z40 st40 hQ40
  subst l40 y40 z40
  obtain ⟨N40q, rfl, eh40⟩ := hQ40
  have N41 := Fr.app N39 N40q
  refine own_st st40 ?_
  show own_Go p e below s _ _ _ (T40.setTop (mkF m 34 #[.val (.int p1), .val (.int p2), .val (.int ((p1 &&& (2147483647 : Int32)) % (3 : Int32))), .val (.int ((p2 &&& (2147483647 : Int32)) % (3 : Int32))), .val (.ref (own_of a_TRUE a_FALSE a_UNKNOWN ((p1 &&& (2147483647 : Int32)) % (3 : Int32)))), .val (.ref (own_of a_TRUE a_FALSE a_UNKNOWN ((p2 &&& (2147483647 : Int32)) % (3 : Int32)))), .unset, .unset] [(.ref (own_of a_TRUE a_FALSE a_UNKNOWN (own_max ((p1 &&& (2147483647 : Int32)) % (3 : Int32)) ((p2 &&& (2147483647 : Int32)) % (3 : Int32)))))]))
  have Ex42 : Exa Z Z.heap (own_of a_TRUE a_FALSE a_UNKNOWN (own_max ((p1 &&& (2147483647 : Int32)) % (3 : Int32)) ((p2 &&& (2147483647 : Int32)) % (3 : Int32)))) "com/example/treeloom/treeloom/harness/qt3/Assertions$Truth" := by unfold own_of; split <;> first | exact Ex_a_FALSE | (split <;> first | exact Ex_a_UNKNOWN | exact Ex_a_TRUE)
  refine own_st (fun _ k => XS.astore X40.here hx rfl (hb hby at_34) rfl rfl (l' := #[.val (.int p1), .val (.int p2), .val (.int ((p1 &&& (2147483647 : Int32)) % (3 : Int32))), .val (.int ((p2 &&& (2147483647 : Int32)) % (3 : Int32))), .val (.ref (own_of a_TRUE a_FALSE a_UNKNOWN ((p1 &&& (2147483647 : Int32)) % (3 : Int32)))), .val (.ref (own_of a_TRUE a_FALSE a_UNKNOWN ((p2 &&& (2147483647 : Int32)) % (3 : Int32)))), .val (.ref (own_of a_TRUE a_FALSE a_UNKNOWN (own_max ((p1 &&& (2147483647 : Int32)) % (3 : Int32)) ((p2 &&& (2147483647 : Int32)) % (3 : Int32))))), .unset]) rfl k) ?_
  show own_Go p e below s _ _ _ (T40.setTop (mkF m 36 #[.val (.int p1), .val (.int p2), .val (.int ((p1 &&& (2147483647 : Int32)) % (3 : Int32))), .val (.int ((p2 &&& (2147483647 : Int32)) % (3 : Int32))), .val (.ref (own_of a_TRUE a_FALSE a_UNKNOWN ((p1 &&& (2147483647 : Int32)) % (3 : Int32)))), .val (.ref (own_of a_TRUE a_FALSE a_UNKNOWN ((p2 &&& (2147483647 : Int32)) % (3 : Int32)))), .val (.ref (own_of a_TRUE a_FALSE a_UNKNOWN (own_max ((p1 &&& (2147483647 : Int32)) % (3 : Int32)) ((p2 &&& (2147483647 : Int32)) % (3 : Int32))))), .unset] []))
  refine own_st (fun _ k => XS.aload X40.here hx rfl (hb hby at_36) rfl rfl k) ?_
  show own_Go p e below s _ _ _ (T40.setTop (mkF m 38 #[.val (.int p1), .val (.int p2), .val (.int ((p1 &&& (2147483647 : Int32)) % (3 : Int32))), .val (.int ((p2 &&& (2147483647 : Int32)) % (3 : Int32))), .val (.ref (own_of a_TRUE a_FALSE a_UNKNOWN ((p1 &&& (2147483647 : Int32)) % (3 : Int32)))), .val (.ref (own_of a_TRUE a_FALSE a_UNKNOWN ((p2 &&& (2147483647 : Int32)) % (3 : Int32)))), .val (.ref (own_of a_TRUE a_FALSE a_UNKNOWN (own_max ((p1 &&& (2147483647 : Int32)) % (3 : Int32)) ((p2 &&& (2147483647 : Int32)) % (3 : Int32))))), .unset] [(.ref (own_of a_TRUE a_FALSE a_UNKNOWN ((p1 &&& (2147483647 : Int32)) % (3 : Int32))))]))
  refine own_st (fun _ k => XS.aload X40.here hx rfl (hb hby at_38) rfl rfl k) ?_
  show own_Go p e below s _ _ _ (T40.setTop (mkF m 40 #[.val (.int p1), .val (.int p2), .val (.int ((p1 &&& (2147483647 : Int32)) % (3 : Int32))), .val (.int ((p2 &&& (2147483647 : Int32)) % (3 : Int32))), .val (.ref (own_of a_TRUE a_FALSE a_UNKNOWN ((p1 &&& (2147483647 : Int32)) % (3 : Int32)))), .val (.ref (own_of a_TRUE a_FALSE a_UNKNOWN ((p2 &&& (2147483647 : Int32)) % (3 : Int32)))), .val (.ref (own_of a_TRUE a_FALSE a_UNKNOWN (own_max ((p1 &&& (2147483647 : Int32)) % (3 : Int32)) ((p2 &&& (2147483647 : Int32)) % (3 : Int32))))), .unset] [(.ref (own_of a_TRUE a_FALSE a_UNKNOWN ((p2 &&& (2147483647 : Int32)) % (3 : Int32)))), (.ref (own_of a_TRUE a_FALSE a_UNKNOWN ((p1 &&& (2147483647 : Int32)) % (3 : Int32))))]))
  have F44 : Exa Z h0 (own_of a_TRUE a_FALSE a_UNKNOWN ((p1 &&& (2147483647 : Int32)) % (3 : Int32))) "com/example/treeloom/treeloom/harness/qt3/Assertions$Truth" := Ex34.ext O0.2
  obtain ⟨cq43, kq43, q43a, q43b, q43c⟩ := isOf hZ eh40 F44
  obtain ⟨_, _, ⟨T43, L43, k43, n43⟩, -, X43, ⟨Lc43, hQ43, l43, y43, z43⟩, st43⟩ := X40.virtualBack hx (y := (⟨"com/example/treeloom/treeloom/harness/qt3/Assertions$Truth", "or", "(Lcom/example/treeloom/treeloom/harness/qt3/Assertions$Truth;)Lcom/example/treeloom/treeloom/harness/qt3/Assertions$Truth;"⟩ : MethodName)) (z := (⟨"com/example/treeloom/treeloom/harness/qt3/Assertions$Truth", "or", "(Lcom/example/treeloom/treeloom/harness/qt3/Assertions$Truth;)Lcom/example/treeloom/treeloom/harness/qt3/Assertions$Truth;"⟩ : MethodName)) hown (mvT hZ (hw _ (List.mem_of_getElem? (i := 12) rfl))) (mvT hZ (hw _ (List.mem_of_getElem? (i := 13) rfl))) (notFace_of_selects (args := #[]) (mvT hZ (hw _ (List.mem_of_getElem? (i := 15) rfl)))) (mvT hZ (hw _ (List.mem_of_getElem? (i := 15) rfl))) (mvT hZ (hw _ (List.mem_of_getElem? (i := 14) rfl))) (by decide) (backOf (W := 0) (own_rm_or l Z a0 hw [] (own_of a_TRUE a_FALSE a_UNKNOWN ((p1 &&& (2147483647 : Int32)) % (3 : Int32))) (own_of a_TRUE a_FALSE a_UNKNOWN ((p2 &&& (2147483647 : Int32)) % (3 : Int32))) a_TRUE a_FALSE a_UNKNOWN h0 n0 Z0 O0 S_a_FALSE S_a_TRUE S_a_UNKNOWN) hZ (hw _ (List.mem_of_getElem? (i := 16) rfl)) (hw _ (List.mem_of_getElem? (i := 6) rfl)) (by decide) (by decide)) q43a q43c (g := (mkF m 40 #[.val (.int p1), .val (.int p2), .val (.int ((p1 &&& (2147483647 : Int32)) % (3 : Int32))), .val (.int ((p2 &&& (2147483647 : Int32)) % (3 : Int32))), .val (.ref (own_of a_TRUE a_FALSE a_UNKNOWN ((p1 &&& (2147483647 : Int32)) % (3 : Int32)))), .val (.ref (own_of a_TRUE a_FALSE a_UNKNOWN ((p2 &&& (2147483647 : Int32)) % (3 : Int32)))), .val (.ref (own_of a_TRUE a_FALSE a_UNKNOWN (own_max ((p1 &&& (2147483647 : Int32)) % (3 : Int32)) ((p2 &&& (2147483647 : Int32)) % (3 : Int32))))), .unset] [(.ref (own_of a_TRUE a_FALSE a_UNKNOWN ((p2 &&& (2147483647 : Int32)) % (3 : Int32)))), (.ref (own_of a_TRUE a_FALSE a_UNKNOWN ((p1 &&& (2147483647 : Int32)) % (3 : Int32))))])) rfl (by rw [hml]; rfl) (Steps.refl _) (argsL := [(.ref (own_of a_TRUE a_FALSE a_UNKNOWN ((p2 &&& (2147483647 : Int32)) % (3 : Int32))))]) (rest := []) (lenOf own_pd2 rfl) rfl (by show 2 * 0 + _ ≤ _; exact Nat.le_of_eq rfl) (hb hby at_40) (fun _ _ => ⟨rfl, eh40, (by decide : 0 + 0 ≤ _), (by decide : 0 + 0 ≤ _)⟩)
  dsimp only [Pt.U, Pt.locs, Pt.cells, Pt.slots] at X43 l43 y43 z43 st43 hQ43
  subst l43 y43 z43
  obtain ⟨N43q, rfl, eh43⟩ := hQ43
  have N45 := Fr.app N41 N43q
  refine own_tr st43 ?_
  show own_Go p e below s _ _ _ (T43.setTop (mkF m 43 #[.val (.int p1), .val (.int p2), .val (.int ((p1 &&& (2147483647 : Int32)) % (3 : Int32))), .val (.int ((p2 &&& (2147483647 : Int32)) % (3 : Int32))), .val (.ref (own_of a_TRUE a_FALSE a_UNKNOWN ((p1 &&& (2147483647 : Int32)) % (3 : Int32)))), .val (.ref (own_of a_TRUE a_FALSE a_UNKNOWN ((p2 &&& (2147483647 : Int32)) % (3 : Int32)))), .val (.ref (own_of a_TRUE a_FALSE a_UNKNOWN (own_max ((p1 &&& (2147483647 : Int32)) % (3 : Int32)) ((p2 &&& (2147483647 : Int32)) % (3 : Int32))))), .unset] [(.ref (own_or a_TRUE a_FALSE a_UNKNOWN (own_of a_TRUE a_FALSE a_UNKNOWN ((p1 &&& (2147483647 : Int32)) % (3 : Int32))) (own_of a_TRUE a_FALSE a_UNKNOWN ((p2 &&& (2147483647 : Int32)) % (3 : Int32)))))]))
  refine own_st (fun _ k => XS.astore X43.here hx rfl (hb hby at_43) rfl rfl (l' := #[.val (.int p1), .val (.int p2), .val (.int ((p1 &&& (2147483647 : Int32)) % (3 : Int32))), .val (.int ((p2 &&& (2147483647 : Int32)) % (3 : Int32))), .val (.ref (own_of a_TRUE a_FALSE a_UNKNOWN ((p1 &&& (2147483647 : Int32)) % (3 : Int32)))), .val (.ref (own_of a_TRUE a_FALSE a_UNKNOWN ((p2 &&& (2147483647 : Int32)) % (3 : Int32)))), .val (.ref (own_of a_TRUE a_FALSE a_UNKNOWN (own_max ((p1 &&& (2147483647 : Int32)) % (3 : Int32)) ((p2 &&& (2147483647 : Int32)) % (3 : Int32))))), .val (.ref (own_or a_TRUE a_FALSE a_UNKNOWN (own_of a_TRUE a_FALSE a_UNKNOWN ((p1 &&& (2147483647 : Int32)) % (3 : Int32))) (own_of a_TRUE a_FALSE a_UNKNOWN ((p2 &&& (2147483647 : Int32)) % (3 : Int32)))))]) rfl k) ?_
  show own_Go p e below s _ _ _ (T43.setTop (mkF m 45 #[.val (.int p1), .val (.int p2), .val (.int ((p1 &&& (2147483647 : Int32)) % (3 : Int32))), .val (.int ((p2 &&& (2147483647 : Int32)) % (3 : Int32))), .val (.ref (own_of a_TRUE a_FALSE a_UNKNOWN ((p1 &&& (2147483647 : Int32)) % (3 : Int32)))), .val (.ref (own_of a_TRUE a_FALSE a_UNKNOWN ((p2 &&& (2147483647 : Int32)) % (3 : Int32)))), .val (.ref (own_of a_TRUE a_FALSE a_UNKNOWN (own_max ((p1 &&& (2147483647 : Int32)) % (3 : Int32)) ((p2 &&& (2147483647 : Int32)) % (3 : Int32))))), .val (.ref (own_or a_TRUE a_FALSE a_UNKNOWN (own_of a_TRUE a_FALSE a_UNKNOWN ((p1 &&& (2147483647 : Int32)) % (3 : Int32))) (own_of a_TRUE a_FALSE a_UNKNOWN ((p2 &&& (2147483647 : Int32)) % (3 : Int32)))))] []))
  refine own_st (fun _ k => XS.aload X43.here hx rfl (hb hby at_45) rfl rfl k) ?_
  show own_Go p e below s _ _ _ (T43.setTop (mkF m 47 #[.val (.int p1), .val (.int p2), .val (.int ((p1 &&& (2147483647 : Int32)) % (3 : Int32))), .val (.int ((p2 &&& (2147483647 : Int32)) % (3 : Int32))), .val (.ref (own_of a_TRUE a_FALSE a_UNKNOWN ((p1 &&& (2147483647 : Int32)) % (3 : Int32)))), .val (.ref (own_of a_TRUE a_FALSE a_UNKNOWN ((p2 &&& (2147483647 : Int32)) % (3 : Int32)))), .val (.ref (own_of a_TRUE a_FALSE a_UNKNOWN (own_max ((p1 &&& (2147483647 : Int32)) % (3 : Int32)) ((p2 &&& (2147483647 : Int32)) % (3 : Int32))))), .val (.ref (own_or a_TRUE a_FALSE a_UNKNOWN (own_of a_TRUE a_FALSE a_UNKNOWN ((p1 &&& (2147483647 : Int32)) % (3 : Int32))) (own_of a_TRUE a_FALSE a_UNKNOWN ((p2 &&& (2147483647 : Int32)) % (3 : Int32)))))] [(.ref (own_or a_TRUE a_FALSE a_UNKNOWN (own_of a_TRUE a_FALSE a_UNKNOWN ((p1 &&& (2147483647 : Int32)) % (3 : Int32))) (own_of a_TRUE a_FALSE a_UNKNOWN ((p2 &&& (2147483647 : Int32)) % (3 : Int32)))))]))
  refine own_st (fun _ k => XS.aload X43.here hx rfl (hb hby at_47) rfl rfl k) ?_
  show own_Go p e below s _ _ _ (T43.setTop (mkF m 49 #[.val (.int p1), .val (.int p2), .val (.int ((p1 &&& (2147483647 : Int32)) % (3 : Int32))), .val (.int ((p2 &&& (2147483647 : Int32)) % (3 : Int32))), .val (.ref (own_of a_TRUE a_FALSE a_UNKNOWN ((p1 &&& (2147483647 : Int32)) % (3 : Int32)))), .val (.ref (own_of a_TRUE a_FALSE a_UNKNOWN ((p2 &&& (2147483647 : Int32)) % (3 : Int32)))), .val (.ref (own_of a_TRUE a_FALSE a_UNKNOWN (own_max ((p1 &&& (2147483647 : Int32)) % (3 : Int32)) ((p2 &&& (2147483647 : Int32)) % (3 : Int32))))), .val (.ref (own_or a_TRUE a_FALSE a_UNKNOWN (own_of a_TRUE a_FALSE a_UNKNOWN ((p1 &&& (2147483647 : Int32)) % (3 : Int32))) (own_of a_TRUE a_FALSE a_UNKNOWN ((p2 &&& (2147483647 : Int32)) % (3 : Int32)))))] [(.ref (own_of a_TRUE a_FALSE a_UNKNOWN (own_max ((p1 &&& (2147483647 : Int32)) % (3 : Int32)) ((p2 &&& (2147483647 : Int32)) % (3 : Int32))))), (.ref (own_or a_TRUE a_FALSE a_UNKNOWN (own_of a_TRUE a_FALSE a_UNKNOWN ((p1 &&& (2147483647 : Int32)) % (3 : Int32))) (own_of a_TRUE a_FALSE a_UNKNOWN ((p2 &&& (2147483647 : Int32)) % (3 : Int32)))))]))
  refine own_st (fun _ k => XT.acmpNo X43.here hx rfl (hb hby at_49) rfl rfl rfl (XT.aa_ne_f (congrArg Value.ref hp)) k) ?_
  show own_Go p e below s _ _ _ (T43.setTop (mkF m 52 #[.val (.int p1), .val (.int p2), .val (.int ((p1 &&& (2147483647 : Int32)) % (3 : Int32))), .val (.int ((p2 &&& (2147483647 : Int32)) % (3 : Int32))), .val (.ref (own_of a_TRUE a_FALSE a_UNKNOWN ((p1 &&& (2147483647 : Int32)) % (3 : Int32)))), .val (.ref (own_of a_TRUE a_FALSE a_UNKNOWN ((p2 &&& (2147483647 : Int32)) % (3 : Int32)))), .val (.ref (own_of a_TRUE a_FALSE a_UNKNOWN (own_max ((p1 &&& (2147483647 : Int32)) % (3 : Int32)) ((p2 &&& (2147483647 : Int32)) % (3 : Int32))))), .val (.ref (own_or a_TRUE a_FALSE a_UNKNOWN (own_of a_TRUE a_FALSE a_UNKNOWN ((p1 &&& (2147483647 : Int32)) % (3 : Int32))) (own_of a_TRUE a_FALSE a_UNKNOWN ((p2 &&& (2147483647 : Int32)) % (3 : Int32)))))] []))
  refine own_st (fun _ k => XT.iconstV X43.here hx rfl (1 : Int32) (hb hby at_52) (by decide) k) ?_
  show own_Go p e below s _ _ _ (T43.setTop (mkF m 53 #[.val (.int p1), .val (.int p2), .val (.int ((p1 &&& (2147483647 : Int32)) % (3 : Int32))), .val (.int ((p2 &&& (2147483647 : Int32)) % (3 : Int32))), .val (.ref (own_of a_TRUE a_FALSE a_UNKNOWN ((p1 &&& (2147483647 : Int32)) % (3 : Int32)))), .val (.ref (own_of a_TRUE a_FALSE a_UNKNOWN ((p2 &&& (2147483647 : Int32)) % (3 : Int32)))), .val (.ref (own_of a_TRUE a_FALSE a_UNKNOWN (own_max ((p1 &&& (2147483647 : Int32)) % (3 : Int32)) ((p2 &&& (2147483647 : Int32)) % (3 : Int32))))), .val (.ref (own_or a_TRUE a_FALSE a_UNKNOWN (own_of a_TRUE a_FALSE a_UNKNOWN ((p1 &&& (2147483647 : Int32)) % (3 : Int32))) (own_of a_TRUE a_FALSE a_UNKNOWN ((p2 &&& (2147483647 : Int32)) % (3 : Int32)))))] [(.int (1 : Int32))]))
  refine own_st (fun _ k => XS.goto X43.here hx rfl (pc0 := 53) (pc' := 57) rfl (hb hby at_53) (by decide) (by decide) k) ?_
  show own_Go p e below s _ _ _ (T43.setTop (mkF m 57 #[.val (.int p1), .val (.int p2), .val (.int ((p1 &&& (2147483647 : Int32)) % (3 : Int32))), .val (.int ((p2 &&& (2147483647 : Int32)) % (3 : Int32))), .val (.ref (own_of a_TRUE a_FALSE a_UNKNOWN ((p1 &&& (2147483647 : Int32)) % (3 : Int32)))), .val (.ref (own_of a_TRUE a_FALSE a_UNKNOWN ((p2 &&& (2147483647 : Int32)) % (3 : Int32)))), .val (.ref (own_of a_TRUE a_FALSE a_UNKNOWN (own_max ((p1 &&& (2147483647 : Int32)) % (3 : Int32)) ((p2 &&& (2147483647 : Int32)) % (3 : Int32))))), .val (.ref (own_or a_TRUE a_FALSE a_UNKNOWN (own_of a_TRUE a_FALSE a_UNKNOWN ((p1 &&& (2147483647 : Int32)) % (3 : Int32))) (own_of a_TRUE a_FALSE a_UNKNOWN ((p2 &&& (2147483647 : Int32)) % (3 : Int32)))))] [(.int (1 : Int32))]))
  refine own_retN X43 hx hlk Bd.returns (t := .boolean) (z' := (1 : Int32)) (by simp) (by decide) (hb hby at_57) (by decide) (by decide) ?_
  rw [eh43]
  exact ⟨N45, rfl⟩
set_option maxRecDepth 65536 in
set_option maxHeartbeats 40000000 in
theorem comes_1 {Post : Tables → Env → Array Value → State → Outcome → State → Prop} (hpost : ∀ tb e args s v u, (limb_1_1.after args s (.returned v) u = true ∧ limb_1_2.after args s (.returned v) u = true ∧ True) → FrameEnd s (.returned v) u (Jvm.fieldLocs frame_1_writes args s ++ Jvm.arrayLocs frame_1_arrays args s ++ Jvm.staticLocs frame_1_statics s) 0 0 → Post tb e args s (.returned v) u) :
    ArmFor flags0 classFile x code maxLocals ret World_1 tables_1 room_1 Calls_1 rest_1 Pre_1 Post := by
  intro l hfl _ _ p e ha hc hk s m args below hf hA hF happ hP
  obtain ⟨hcalls, hrest, hpre⟩ := hP
  obtain ⟨-, -, -, hnamed, -, -, -, hat⟩ := (Spec.applies_iff hf).mp happ
  obtain ⟨hg, hn⟩ := and_e (Cond.before_iff.mp (show (Jvm.Cond.and given_1 narrow_1).before args s = true from hpre))
  obtain ⟨gg0, hg0⟩ := and_e hg
  obtain ⟨gg1, hg1⟩ := and_e hg0
  obtain ⟨w0, w1, rfl⟩ : ∃ w0 w1 : Value, args = #[w0, w1] := by
    have hs : args.size = 2 := by simpa [Cond.value, given_1] using gg0
    obtain ⟨L⟩ := args
    match L, hs with
    | [w0, w1], _ => exact ⟨w0, w1, rfl⟩
  have hw := fun d (hd : d ∈ tables_1) => atoms_spec (ws := Jvm.Cond.code x code maxLocals ret :: tables_1) hat d (List.mem_cons_of_mem _ hd)
  have hfit : Fit s := fun {y c} hc i hi => by
    obtain ⟨ha, rfl⟩ := Array.getElem?_eq_some_iff.mp hc
    have q := List.all_eq_true.mp ((Array.all_eq_true_iff_forall_mem.mp hF) _ (Array.getElem_mem ha)) i (List.mem_range.mpr hi)
    simpa [Array.getElem?_eq_getElem hi] using q
  obtain ⟨i0, ei0⟩ := is_v gg1
  obtain rfl : w0 = (.int i0) := Option.some.inj ei0
  obtain ⟨i1, ei1⟩ := is_v hg1
  obtain rfl : w1 = (.int i1) := Option.some.inj ei1
  obtain ⟨nn0, hn0⟩ := and_e hn
  obtain ⟨nn1, hn1⟩ := and_e hn0
  obtain ⟨nn2, hn2⟩ := and_e hn1
  obtain ⟨nn3, hn3⟩ := and_e hn2
  obtain ⟨nn4, hn4⟩ := and_e hn3
  obtain ⟨a_FALSE, e_a_FALSE⟩ := exa_v nn0
  have Ex_a_FALSE : Exa s s.heap a_FALSE "com/example/treeloom/treeloom/harness/qt3/Assertions$Truth" := Exa.start e_a_FALSE nn0
  have S_a_FALSE : Sta s s.heap "com/example/treeloom/treeloom/harness/qt3/Assertions$Truth" "FALSE" "Lcom/example/treeloom/treeloom/harness/qt3/Assertions$Truth;" (.ref a_FALSE) := Sta.start e_a_FALSE (Or.inr ⟨(hw _ (List.mem_of_getElem? (i := 6) rfl)), (hw _ (List.mem_of_getElem? (i := 7) rfl))⟩)
  obtain ⟨a_TRUE, e_a_TRUE⟩ := exa_v nn1
  have Ex_a_TRUE : Exa s s.heap a_TRUE "com/example/treeloom/treeloom/harness/qt3/Assertions$Truth" := Exa.start e_a_TRUE nn1
  have S_a_TRUE : Sta s s.heap "com/example/treeloom/treeloom/harness/qt3/Assertions$Truth" "TRUE" "Lcom/example/treeloom/treeloom/harness/qt3/Assertions$Truth;" (.ref a_TRUE) := Sta.start e_a_TRUE (Or.inr ⟨(hw _ (List.mem_of_getElem? (i := 6) rfl)), (hw _ (List.mem_of_getElem? (i := 18) rfl))⟩)
  have ev_nn2 := own_eqV nn2 (Term.int_eval _)
  have F_FALSE_ordinal : Fld s s.heap a_FALSE "java/lang/Enum" "ordinal" "I" (.int (1 : Int32)) := Fld.start ((fld_at e_a_FALSE).symm.trans ev_nn2)
  have ev_nn3 := own_eqV nn3 (Term.int_eval _)
  have F_TRUE_ordinal : Fld s s.heap a_TRUE "java/lang/Enum" "ordinal" "I" (.int (0 : Int32)) := Fld.start ((fld_at e_a_TRUE).symm.trans ev_nn3)
  obtain ⟨a_UNKNOWN, e_a_UNKNOWN⟩ := exa_v nn4
  have Ex_a_UNKNOWN : Exa s s.heap a_UNKNOWN "com/example/treeloom/treeloom/harness/qt3/Assertions$Truth" := Exa.start e_a_UNKNOWN nn4
  have S_a_UNKNOWN : Sta s s.heap "com/example/treeloom/treeloom/harness/qt3/Assertions$Truth" "UNKNOWN" "Lcom/example/treeloom/treeloom/harness/qt3/Assertions$Truth;" (.ref a_UNKNOWN) := Sta.start e_a_UNKNOWN (Or.inr ⟨(hw _ (List.mem_of_getElem? (i := 6) rfl)), (hw _ (List.mem_of_getElem? (i := 20) rfl))⟩)
  have ev_hn4 := own_eqV hn4 (Term.int_eval _)
  have F_UNKNOWN_ordinal : Fld s s.heap a_UNKNOWN "java/lang/Enum" "ordinal" "I" (.int (2 : Int32)) := Fld.start ((fld_at e_a_UNKNOWN).symm.trans ev_hn4)
  obtain ⟨n, o, h1, h2, h3, _, L, rfl, ⟨N, rfl⟩, hq⟩ := own_law l s _ hw tables_1 i0 i1 a_FALSE a_TRUE a_UNKNOWN s.heap s.heap.size (Nat.le_refl _) (Old.start s) Ex_a_FALSE S_a_FALSE Ex_a_TRUE S_a_TRUE F_FALSE_ordinal F_TRUE_ordinal Ex_a_UNKNOWN S_a_UNKNOWN F_UNKNOWN_ordinal p e ha hc hk s m _ below hf ((Spec.applies_iff_loose hf).mp happ).1 ⟨rfl, State.Warmed39.refl s, rfl⟩ trivial
  refine ⟨n, _, h1, h2, h3, hpost _ _ _ _ _ _ ⟨Cond.after_iff.mpr rfl, Cond.after_iff.mpr (eq_i res_at (Term.int_eval (1)) rfl), trivial⟩ ⟨hq.1, hq.2.1, (hq.2.2.sift fun y hy => Or.inr (N y hy)).mono (by decide) (by decide)⟩⟩
theorem main_1_1 : Claimed_1_1 := comes_1 fun _ _ _ _ _ _ h hF => ⟨h.1, hF⟩
theorem main_1_2 : Claimed_1_2 := comes_1 fun _ _ _ _ _ _ h hF => ⟨h.2.1, hF⟩
end Jvm.Pilot.@@N@@
namespace Jvm.Pilot.@@N@@
open Jvm Jvm.ClassFile Sem Op Lib Jvm.Free Jvm.Stand Jvm.Pilot.@@N@@.Jvm.D
/-! MADE BY PROGRAM (witnessworld.py) out of the Statement's table words and the real class files: 13 classes; the members and pool entries that the words name. The judged class is class 1, her method 2. -/
namespace start1
open Jvm.ClassFile
def u (s : String) : CpInfo := .utf8 (stringToUtf16 s)
/-- a pool by its gaps: so many unusable entries, then the entry; so many at the end -/
def gap : Nat → List CpInfo → List CpInfo
  | 0, r => r
  | n + 1, r => .unusable :: gap n r
def poolList (es : List (Nat × CpInfo)) (last : Nat) : List CpInfo := es.foldr (fun e r => gap e.1 (e.2 :: r)) (gap last [])
def pool (es : List (Nat × CpInfo)) (last : Nat) : Array CpInfo := ⟨poolList es last⟩
def fileOf (pool : Array CpInfo) (this : Nat) (attrs : Array Attribute := #[]) (ms : Array MethodInfo := #[]) (fl : Nat := 33) (sup : Nat := 0) (ifs : Array Nat := #[]) (fds : Array FieldInfo := #[]) : ClassFile where
  minorVersion := 0
  majorVersion := 65
  constantPool := pool
  accessFlags := fl
  thisClass := this
  superClass := sup
  interfaces := ifs
  fields := fds
  methods := ms
  attributes := attrs
def plain (name : String) (sup : Option ClassId) : Class where
  name := name
  kind := .ordinary
  loader := none
  accessFlags := 33
  super := sup
  interfaces := #[]
  cf := none
  fields := #[]
  methods := #[]
  instanceTypes := #[]
  staticTypes := #[]
  resolved := #[]
  callSites := []
  init := .initialized
  statics := none
  mirror := none

def pool0 : Array CpInfo := pool [(5, u "<init>"), (0, u "()V"), (1, .class_ 10), (1, u "java/lang/Object")] 113

def k0m0 : Method := { name := "<init>", desc := "()V", sig := { parameters := [], returnType := none }, accessFlags := 1, code := none }
/-- java/lang/Object -/
def k0 : Class := { plain "java/lang/Object" none with
  accessFlags := 33
  interfaces := #[]
  cf := some (fileOf pool0 8 #[] #[{ accessFlags := 1, nameIndex := 5, descriptorIndex := 6, attributes := #[] }] 33 0 #[] #[])
  fields := #[]
  methods := #[k0m0]
  instanceTypes := #[]
  staticTypes := #[]
  resolved := Array.replicate 124 none
  statics := none }

def pool1 : Array CpInfo := pool [(2, .class_ 4), (1, u "java/lang/Object"), (0, u "<init>"), (0, u "()V"), (0, .fieldref 8 9), (0, .class_ 10), (0, .nameAndType 11 12), (0, u "com/example/treeloom/treeloom/harness/qt3/Assertions$Truth"), (0, u "FALSE"), (0, u "Lcom/example/treeloom/treeloom/harness/qt3/Assertions$Truth;"), (0, .fieldref 8 14), (0, .nameAndType 15 12), (0, u "UNKNOWN"), (0, .fieldref 8 17), (0, .nameAndType 18 12), (0, u "TRUE"), (0, .integer 2147483647), (0, .methodref 21 22), (0, .class_ 23), (0, .nameAndType 24 25), (0, u "com/example/treeloom/treeloom/harness/qt3/TruthOrPinLaw"), (0, u "ofRank"), (0, u "(I)Lcom/example/treeloom/treeloom/harness/qt3/Assertions$Truth;"), (0, .methodref 27 28), (0, .class_ 29), (0, .nameAndType 30 31), (0, u "java/lang/Math"), (0, u "max"), (0, u "(II)I"), (0, .methodref 8 33), (0, .nameAndType 34 35), (0, u "or"), (0, u "(Lcom/example/treeloom/treeloom/harness/qt3/Assertions$Truth;)Lcom/example/treeloom/treeloom/harness/qt3/Assertions$Truth;"), (3, u "law"), (0, u "(II)Z")] 6

def k1m0 : Method := { name := "<init>", desc := "()V", sig := { parameters := [], returnType := none }, accessFlags := 2, code := none }
def k1c1 : Code := { maxStack := 2, maxLocals := 1, code := method_2_code, exceptionTable := #[], attributes := #[] }
def k1m1 : Method := { name := "ofRank", desc := "(I)Lcom/example/treeloom/treeloom/harness/qt3/Assertions$Truth;", sig := { parameters := [.int], returnType := some (.object "com/example/treeloom/treeloom/harness/qt3/Assertions$Truth") }, accessFlags := 10, code := some k1c1 }
def k1c2 : Code := { maxStack := 2, maxLocals := 8, code := code, exceptionTable := #[], attributes := #[] }
def k1m2 : Method := { name := "law", desc := "(II)Z", sig := { parameters := [.int, .int], returnType := some .boolean }, accessFlags := 9, code := some k1c2 }
/-- com/example/treeloom/treeloom/harness/qt3/TruthOrPinLaw -/
def k1 : Class := { plain "com/example/treeloom/treeloom/harness/qt3/TruthOrPinLaw" (some 0) with
  accessFlags := 49
  interfaces := #[]
  cf := some (fileOf pool1 21 #[] #[{ accessFlags := 2, nameIndex := 5, descriptorIndex := 6, attributes := #[] }, { accessFlags := 10, nameIndex := 24, descriptorIndex := 25, attributes := #[] }, { accessFlags := 9, nameIndex := 39, descriptorIndex := 40, attributes := #[] }] 49 2 #[] #[])
  fields := #[]
  methods := #[k1m0, k1m1, k1m2]
  instanceTypes := #[]
  staticTypes := #[]
  resolved := Array.replicate 47 none
  statics := none }

def pool2 : Array CpInfo := pool [(1, .class_ 2), (0, u "java/lang/constant/Constable"), (0, .class_ 4), (0, u "java/lang/Object")] 6

/-- java/lang/constant/Constable -/
def k2 : Class := { plain "java/lang/constant/Constable" (some 0) with
  accessFlags := 1537
  interfaces := #[]
  cf := some (fileOf pool2 1 #[] #[] 1537 3 #[] #[])
  fields := #[]
  methods := #[]
  instanceTypes := #[]
  staticTypes := #[]
  resolved := Array.replicate 11 none
  statics := none }

def pool3 : Array CpInfo := pool [(1, .class_ 2), (0, u "java/lang/Comparable"), (0, .class_ 4), (0, u "java/lang/Object")] 7

/-- java/lang/Comparable -/
def k3 : Class := { plain "java/lang/Comparable" (some 0) with
  accessFlags := 1537
  interfaces := #[]
  cf := some (fileOf pool3 1 #[] #[] 1537 3 #[] #[])
  fields := #[]
  methods := #[]
  instanceTypes := #[]
  staticTypes := #[]
  resolved := Array.replicate 12 none
  statics := none }

def pool4 : Array CpInfo := pool [(1, .class_ 2), (0, u "java/io/Serializable"), (0, .class_ 4), (0, u "java/lang/Object")] 2

/-- java/io/Serializable -/
def k4 : Class := { plain "java/io/Serializable" (some 0) with
  accessFlags := 1537
  interfaces := #[]
  cf := some (fileOf pool4 1 #[] #[] 1537 3 #[] #[])
  fields := #[]
  methods := #[]
  instanceTypes := #[]
  staticTypes := #[]
  resolved := Array.replicate 7 none
  statics := none }

def pool5 : Array CpInfo := pool [(2, .class_ 4), (1, u "java/lang/Enum"), (0, u "name"), (0, u "Ljava/lang/String;"), (2, u "ordinal"), (0, u "I"), (1, .class_ 14), (1, u "java/lang/Object"), (4, u "hash"), (86, .class_ 108), (1, u "java/lang/Enum$EnumDesc"), (2, .class_ 112), (0, u "java/lang/constant/Constable"), (0, .class_ 114), (0, u "java/lang/Comparable"), (0, .class_ 116), (0, u "java/io/Serializable")] 87

/-- java/lang/Enum -/
def k5 : Class := { plain "java/lang/Enum" (some 0) with
  accessFlags := 1057
  interfaces := #[2, 3, 4]
  cf := some (fileOf pool5 2 #[.nestMembers #[106]] #[] 1057 12 #[111, 113, 115] #[{ accessFlags := 18, nameIndex := 5, descriptorIndex := 6, attributes := #[] }, { accessFlags := 18, nameIndex := 9, descriptorIndex := 10, attributes := #[] }, { accessFlags := 2, nameIndex := 19, descriptorIndex := 10, attributes := #[] }])
  fields := #[{ name := "name", type := (.object "java/lang/String"), accessFlags := 18, slot := 0, constantValue := 0 }, { name := "ordinal", type := .int, accessFlags := 18, slot := 1, constantValue := 0 }, { name := "hash", type := .int, accessFlags := 2, slot := 2, constantValue := 0 }]
  methods := #[]
  instanceTypes := #[(.object "java/lang/String"), .int, .int]
  staticTypes := #[]
  resolved := Array.replicate 204 none
  statics := none }

def pool6 : Array CpInfo := pool [(1, .class_ 2), (0, u "com/example/treeloom/treeloom/harness/qt3/Assertions$Truth"), (0, .fieldref 1 4), (0, .nameAndType 5 6), (0, u "TRUE"), (0, u "Lcom/example/treeloom/treeloom/harness/qt3/Assertions$Truth;"), (0, .fieldref 1 8), (0, .nameAndType 9 6), (0, u "FALSE"), (0, .fieldref 1 11), (0, .nameAndType 12 6), (0, u "UNKNOWN"), (2, u "$VALUES"), (0, u "[Lcom/example/treeloom/treeloom/harness/qt3/Assertions$Truth;"), (6, .class_ 25), (1, u "java/lang/Enum"), (21, u "or"), (0, u "(Lcom/example/treeloom/treeloom/harness/qt3/Assertions$Truth;)Lcom/example/treeloom/treeloom/harness/qt3/Assertions$Truth;"), (7, .class_ 57), (0, u "com/example/treeloom/treeloom/harness/qt3/Assertions")] 2

def k6c0 : Code := { maxStack := 2, maxLocals := 2, code := prog_148_method_4_code, exceptionTable := #[], attributes := #[] }
def k6m0 : Method := { name := "or", desc := "(Lcom/example/treeloom/treeloom/harness/qt3/Assertions$Truth;)Lcom/example/treeloom/treeloom/harness/qt3/Assertions$Truth;", sig := { parameters := [(.object "com/example/treeloom/treeloom/harness/qt3/Assertions$Truth")], returnType := some (.object "com/example/treeloom/treeloom/harness/qt3/Assertions$Truth") }, accessFlags := 0, code := some k6c0 }
/-- com/example/treeloom/treeloom/harness/qt3/Assertions$Truth -/
def k6 : Class := { plain "com/example/treeloom/treeloom/harness/qt3/Assertions$Truth" (some 5) with
  accessFlags := 16432
  interfaces := #[]
  cf := some (fileOf pool6 1 #[.nestHost 56] #[{ accessFlags := 0, nameIndex := 47, descriptorIndex := 48, attributes := #[] }] 16432 23 #[] #[{ accessFlags := 16409, nameIndex := 5, descriptorIndex := 6, attributes := #[] }, { accessFlags := 16409, nameIndex := 9, descriptorIndex := 6, attributes := #[] }, { accessFlags := 16409, nameIndex := 12, descriptorIndex := 6, attributes := #[] }, { accessFlags := 4122, nameIndex := 15, descriptorIndex := 16, attributes := #[] }])
  fields := #[{ name := "TRUE", type := (.object "com/example/treeloom/treeloom/harness/qt3/Assertions$Truth"), accessFlags := 16409, slot := 0, constantValue := 0 }, { name := "FALSE", type := (.object "com/example/treeloom/treeloom/harness/qt3/Assertions$Truth"), accessFlags := 16409, slot := 1, constantValue := 0 }, { name := "UNKNOWN", type := (.object "com/example/treeloom/treeloom/harness/qt3/Assertions$Truth"), accessFlags := 16409, slot := 2, constantValue := 0 }, { name := "$VALUES", type := (.array (.object "com/example/treeloom/treeloom/harness/qt3/Assertions$Truth")), accessFlags := 4122, slot := 3, constantValue := 0 }]
  methods := #[k6m0]
  instanceTypes := #[(.object "java/lang/String"), .int, .int]
  staticTypes := #[(.object "com/example/treeloom/treeloom/harness/qt3/Assertions$Truth"), (.object "com/example/treeloom/treeloom/harness/qt3/Assertions$Truth"), (.object "com/example/treeloom/treeloom/harness/qt3/Assertions$Truth"), (.array (.object "com/example/treeloom/treeloom/harness/qt3/Assertions$Truth"))]
  resolved := Array.replicate 60 none
  statics := some 0 }

def pool7 : Array CpInfo := pool [(1, .class_ 2), (0, u "java/lang/Math"), (1, .class_ 6), (1, u "java/lang/Object"), (0, u "<init>"), (0, u "()V"), (89, .class_ 100), (1, u "java/lang/Math$RandomNumberGeneratorHolder"), (71, u "negativeZeroFloatBits"), (0, u "J"), (2, u "negativeZeroDoubleBits"), (21, u "max"), (46, u "$assertionsDisabled"), (0, u "Z"), (88, u "(II)I"), (2, u "twoToTheDoubleScaleDown"), (0, u "D"), (4, u "twoToTheDoubleScaleUp"), (9, u "E"), (3, u "PI"), (2, u "TAU"), (2, u "DEGREES_TO_RADIANS"), (0, u "RADIANS_TO_DEGREES")] 94

def k7m0 : Method := { name := "<init>", desc := "()V", sig := { parameters := [], returnType := none }, accessFlags := 2, code := none }
def k7c1 : Code := { maxStack := 2, maxLocals := 2, code := jdk_29_method_65_code, exceptionTable := #[], attributes := #[] }
def k7m1 : Method := { name := "max", desc := "(II)I", sig := { parameters := [.int, .int], returnType := some .int }, accessFlags := 9, code := some k7c1 }
/-- java/lang/Math -/
def k7 : Class := { plain "java/lang/Math" (some 0) with
  accessFlags := 49
  interfaces := #[]
  cf := some (fileOf pool7 1 #[.nestMembers #[98]] #[{ accessFlags := 2, nameIndex := 7, descriptorIndex := 8, attributes := #[] }, { accessFlags := 9, nameIndex := 198, descriptorIndex := 335, attributes := #[] }] 49 4 #[] #[{ accessFlags := 25, nameIndex := 354, descriptorIndex := 339, attributes := #[] }, { accessFlags := 25, nameIndex := 358, descriptorIndex := 339, attributes := #[] }, { accessFlags := 25, nameIndex := 361, descriptorIndex := 339, attributes := #[] }, { accessFlags := 26, nameIndex := 364, descriptorIndex := 339, attributes := #[] }, { accessFlags := 26, nameIndex := 365, descriptorIndex := 339, attributes := #[] }, { accessFlags := 26, nameIndex := 172, descriptorIndex := 173, attributes := #[] }, { accessFlags := 26, nameIndex := 176, descriptorIndex := 173, attributes := #[] }, { accessFlags := 8, nameIndex := 344, descriptorIndex := 339, attributes := #[] }, { accessFlags := 8, nameIndex := 338, descriptorIndex := 339, attributes := #[] }, { accessFlags := 4120, nameIndex := 245, descriptorIndex := 246, attributes := #[] }])
  fields := #[{ name := "E", type := .double, accessFlags := 25, slot := 0, constantValue := 0 }, { name := "PI", type := .double, accessFlags := 25, slot := 1, constantValue := 0 }, { name := "TAU", type := .double, accessFlags := 25, slot := 2, constantValue := 0 }, { name := "DEGREES_TO_RADIANS", type := .double, accessFlags := 26, slot := 3, constantValue := 0 }, { name := "RADIANS_TO_DEGREES", type := .double, accessFlags := 26, slot := 4, constantValue := 0 }, { name := "negativeZeroFloatBits", type := .long, accessFlags := 26, slot := 5, constantValue := 0 }, { name := "negativeZeroDoubleBits", type := .long, accessFlags := 26, slot := 6, constantValue := 0 }, { name := "twoToTheDoubleScaleUp", type := .double, accessFlags := 8, slot := 7, constantValue := 0 }, { name := "twoToTheDoubleScaleDown", type := .double, accessFlags := 8, slot := 8, constantValue := 0 }, { name := "$assertionsDisabled", type := .boolean, accessFlags := 4120, slot := 9, constantValue := 0 }]
  methods := #[k7m0, k7m1]
  instanceTypes := #[]
  staticTypes := #[.double, .double, .double, .double, .double, .long, .long, .double, .double, .boolean]
  resolved := Array.replicate 460 none
  statics := none }

def pool8 : Array CpInfo := pool [(1, u "java/lang/Cloneable"), (0, .class_ 1), (0, u "java/lang/Object"), (0, .class_ 3)] 3

/-- java/lang/Cloneable -/
def k8 : Class := { plain "java/lang/Cloneable" (some 0) with
  accessFlags := 1537
  interfaces := #[]
  cf := some (fileOf pool8 2 #[] #[] 1537 4 #[] #[])
  fields := #[]
  methods := #[]
  instanceTypes := #[]
  staticTypes := #[]
  resolved := Array.replicate 8 none
  statics := none }

/-- the primitive byte -/
def k9 : Class := { plain "byte" none with kind := .primitive 'B', accessFlags := 0x411 }
/-- [B -/
def k10 : Class := { plain "[B" (some 0) with kind := .array 9 .byte, interfaces := #[8, 4], accessFlags := 1041 }

/-- the primitive int -/
def k11 : Class := { plain "int" none with kind := .primitive 'I', accessFlags := 0x411 }
/-- [I -/
def k12 : Class := { plain "[I" (some 0) with kind := .array 11 .int, interfaces := #[8, 4], accessFlags := 1041 }

def heap : Heap := #[{ cls := 6, slots := #[.ref 2, .ref 1, .ref 3, .null], vm := .statics 6 },
  { cls := 6, slots := #[.null, .int 1, .int 0], vm := .none },
  { cls := 6, slots := #[.null, .int 0, .int 0], vm := .none },
  { cls := 6, slots := #[.null, .int 2, .int 0], vm := .none }]
def classes : Array Class := #[k0, k1, k2, k3, k4, k5, k6, k7, k8, k9, k10, k11, k12]
def interned : List (Array UInt16 × Addr) := []
def slotsUsed : Nat := 13
def theMethod : MethodId := ⟨1, 2⟩
def args0 : Array Value := #[.int 5, .int 7]
def aboutOver (below : List Frame) : State where
  vm := { classes := classes, interned := interned.toArray }
  heap := heap
  slotsUsed := slotsUsed
  threads := #[{ frames := .invoking theMethod args0 :: below }]
def below0 : List Frame := [.native { method := ⟨0, 0⟩, args := #[] }]
def about1 : State := aboutOver below0
def p0 : Program := .bare "" "" ""
def e0 : Env := launch0.env 0 0 0
theorem w_frames : about1.frames = Frame.invoking theMethod args0 :: below0 := rfl
set_option maxRecDepth 65536 in
theorem w_args : argsFit about1.vm theMethod args0 = true := by decide +kernel
set_option maxRecDepth 65536 in
theorem w_heap : heapFits about1 = true := by decide +kernel
set_option maxRecDepth 65536 in
theorem w_runnable : about1.curStatus? = some .runnable := by decide +kernel
set_option maxRecDepth 65536 in
theorem w_alone : about1.alone = true := by decide +kernel
set_option maxRecDepth 65536 in
theorem w_named : about1.methodNamed? x = some theMethod := by decide +kernel
set_option maxRecDepth 65536 in
theorem w_hears : about1.hears theMethod below0 = true := by decide +kernel
set_option maxRecDepth 65536 in
theorem w_ripe : about1.ripe theMethod args0 below0 = true := by decide +kernel
theorem w_running : about1.status = .running := rfl
set_option maxRecDepth 65536 in
theorem w_room : about1.hasRoom e0.platform room_1 = true :=
  launch0.hasRoom_least _ room_1 (by decide +kernel) (by decide +kernel) (by decide +kernel) (by decide +kernel) (by decide +kernel) (by decide +kernel)
theorem allAtoms_all (ts : List Jvm.Cond) (a : Array Jvm.Value) (st : Jvm.State) : (allAtoms ts).before a st = ts.all (fun c => c.before a st) := by
  induction ts with
  | nil => rfl
  | cons c t ih =>
    show (Jvm.Cond.and c (allAtoms t)).before a st = _
    rw [Jvm.Cond.before_and, ih, List.all_cons]
def words1 : List Jvm.Cond := Jvm.Cond.code x code maxLocals ret :: tables_1
/-- a 'code' word, met by the world's own term for the bytes: nothing is compared byte by byte -/
theorem code_word {y : MethodName} {bytes : ByteArray} {mx : Nat} {rt : Option FieldType} {a : Array Value} {s : State} {m : MethodId} {meth : Method} {c : Code} (h1 : s.methodNamed? y = some m) (h2 : s.vm.method? m = some meth) (h3 : meth.code = some c) (h4 : c.code = bytes)
    (h5 : (c.maxLocals == mx && c.exceptionTable.isEmpty && decide (c.maxStack ≤ mostOperands) && decide (meth.sig.returnType = rt) && !meth.locks && decide (parseMethodDescriptor y.desc = some meth.sig)) = true) : (Jvm.Cond.code y bytes mx rt).before a s = true := by
  simp only [Bool.and_eq_true, beq_iff_eq, Bool.not_eq_true', decide_eq_true_eq] at h5
  obtain ⟨⟨⟨⟨⟨g1, g2⟩, g3⟩, g4⟩, g5⟩, g6⟩ := h5
  simp [Cond.before, Cond.holds, Cond.value, h1, h2, h3, h4, g1, g2, g3, g4, g5, g6]
def isCode : Jvm.Cond → Bool
  | .code _ _ _ _ => true
  | _ => false
theorem all_split {L : List Jvm.Cond} {P : Jvm.Cond → Bool} (h1 : L.all (fun c => isCode c || P c) = true) (h2 : ∀ c ∈ L.filter isCode, P c = true) : L.all P = true := by
  refine List.all_eq_true.mpr fun c hc => ?_
  have h := List.all_eq_true.mp h1 c hc
  rcases Bool.eq_false_or_eq_true (isCode c) with hi | hi
  · exact h2 c (List.mem_filter.mpr ⟨hc, hi⟩)
  · simpa [hi] using h
set_option maxRecDepth 65536 in
theorem w_c0 : (Jvm.Cond.code x code maxLocals ret).before args0 about1 = true := code_word (m := ⟨1, 2⟩) (meth := k1m2) (c := k1c2) (by decide +kernel) rfl rfl rfl (by decide +kernel)
set_option maxRecDepth 65536 in
theorem w_c1 : (Jvm.Cond.code ({ cls := "com/example/treeloom/treeloom/harness/qt3/TruthOrPinLaw", name := "ofRank", desc := "(I)Lcom/example/treeloom/treeloom/harness/qt3/Assertions$Truth;" } : Jvm.MethodName) method_2_code (1 : Nat) (Option.some (Jvm.ClassFile.FieldType.object "com/example/treeloom/treeloom/harness/qt3/Assertions$Truth"))).before args0 about1 = true := code_word (m := ⟨1, 1⟩) (meth := k1m1) (c := k1c1) (by decide +kernel) rfl rfl rfl (by decide +kernel)
set_option maxRecDepth 65536 in
theorem w_c2 : (Jvm.Cond.code ({ cls := "java/lang/Math", name := "max", desc := "(II)I" } : Jvm.MethodName) jdk_29_method_65_code (2 : Nat) (Option.some Jvm.ClassFile.FieldType.int)).before args0 about1 = true := code_word (m := ⟨7, 1⟩) (meth := k7m1) (c := k7c1) (by decide +kernel) rfl rfl rfl (by decide +kernel)
set_option maxRecDepth 65536 in
theorem w_c3 : (Jvm.Cond.code ({ cls := "com/example/treeloom/treeloom/harness/qt3/Assertions$Truth", name := "or", desc := "(Lcom/example/treeloom/treeloom/harness/qt3/Assertions$Truth;)Lcom/example/treeloom/treeloom/harness/qt3/Assertions$Truth;" } : Jvm.MethodName) prog_148_method_4_code (2 : Nat) (Option.some (Jvm.ClassFile.FieldType.object "com/example/treeloom/treeloom/harness/qt3/Assertions$Truth"))).before args0 about1 = true := code_word (m := ⟨6, 0⟩) (meth := k6m0) (c := k6c0) (by decide +kernel) rfl rfl rfl (by decide +kernel)
def codes1 : List Jvm.Cond := [Jvm.Cond.code x code maxLocals ret, Jvm.Cond.code ({ cls := "com/example/treeloom/treeloom/harness/qt3/TruthOrPinLaw", name := "ofRank", desc := "(I)Lcom/example/treeloom/treeloom/harness/qt3/Assertions$Truth;" } : Jvm.MethodName) method_2_code (1 : Nat) (Option.some (Jvm.ClassFile.FieldType.object "com/example/treeloom/treeloom/harness/qt3/Assertions$Truth")), Jvm.Cond.code ({ cls := "java/lang/Math", name := "max", desc := "(II)I" } : Jvm.MethodName) jdk_29_method_65_code (2 : Nat) (Option.some Jvm.ClassFile.FieldType.int), Jvm.Cond.code ({ cls := "com/example/treeloom/treeloom/harness/qt3/Assertions$Truth", name := "or", desc := "(Lcom/example/treeloom/treeloom/harness/qt3/Assertions$Truth;)Lcom/example/treeloom/treeloom/harness/qt3/Assertions$Truth;" } : Jvm.MethodName) prog_148_method_4_code (2 : Nat) (Option.some (Jvm.ClassFile.FieldType.object "com/example/treeloom/treeloom/harness/qt3/Assertions$Truth"))]
set_option maxRecDepth 65536 in
theorem codes_eq : words1.filter isCode = codes1 := rfl
theorem w_codes : ∀ c ∈ words1.filter isCode, c.before args0 about1 = true := by
  rw [codes_eq]
  intro c hc
  simp only [codes1, List.mem_cons, List.not_mem_nil, or_false] at hc
  rcases hc with rfl | rfl | rfl | rfl
  · exact w_c0
  · exact w_c1
  · exact w_c2
  · exact w_c3
set_option maxRecDepth 65536 in
theorem w_t1 : (words1.take 24).all (fun c => isCode c || c.before args0 about1) = true := by decide +kernel
set_option maxRecDepth 65536 in
theorem w_t2 : (words1.drop 24).all (fun c => isCode c || c.before args0 about1) = true := by decide +kernel
theorem w_tables : (allAtoms (Jvm.Cond.code x code maxLocals ret :: tables_1)).before args0 about1 = true := by
  rw [allAtoms_all]
  show words1.all (fun c => c.before args0 about1) = true
  refine all_split ?_ w_codes
  rw [← List.take_append_drop 24 words1, List.all_append, w_t1, w_t2]
  rfl
set_option maxRecDepth 65536 in
theorem w_case : (Jvm.Cond.and given_1 narrow_1).before args0 about1 = true := by decide +kernel
theorem w_applies : (headSpec (Jvm.Cond.code x code maxLocals ret :: tables_1) room_1).applies x e0.platform about1 = true :=
  (Spec.applies_iff w_frames).mpr ⟨w_running, w_runnable, w_alone, w_named, w_hears, w_ripe, w_room, w_tables⟩
theorem atStart : AtStart classFile x code maxLocals ret World_1 tables_1 room_1 Calls_1 rest_1 Pre_1 launch0 p0 e0 about1 theMethod args0 below0 :=
  ⟨lists_1, trivial, launch0.admits_env _ _ _, launch0.least_env, fairChoices_fair.cas, fairChoices_fair.clock, w_frames, w_args, w_heap, w_applies, trivial, trivial, w_case⟩
end start1
theorem witness_1 : WitnessClaimed_1 := ⟨start1.p0, start1.e0, start1.about1, start1.theMethod, start1.args0, start1.below0, start1.atStart⟩
end Jvm.Pilot.@@N@@
