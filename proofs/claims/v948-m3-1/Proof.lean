import JvmDerived
import JvmDerived.Pilot.@@N@@Statement
import JvmDerived.Pilot.@@N@@Code
set_option linter.unusedVariables false
set_option linter.unusedSimpArgs false
namespace Jvm.RoadKit
open Sem ClassFile Op Lib Jvm.Stand Jvm.Free Jvm.LawKit
section New
variable {p : Program} {l : Launch} {e : Env} {R : Room} {s : State} {m : MethodId} {args : Array Value} {below : List Frame} {meth : Method} {c : Code} {T : State} {locs : List Loc} {cells slots : Nat}
theorem retI (X : Stand p l e R s m args below meth c T locs cells slots) (hx : p.tables.exec = Jvm.exec) {pc : Nat} {Ls : Array Slot} {z : Int32} {rest : List Value} (hret : meth.sig.returnType = some .int) (hd : decode c.code pc = .ok (.ireturn, 1)) {fs : List Frame}
    (hl : ∀ (f : JFrame) (acts : List Action), f.method = m → f.locked = none → f.entered = [] → (doReturn e (T.setTop f) acts (some (.int z))).1 = T.setFrames fs) : Steps p.tables e below (T.setTop (mkF m pc Ls (.int z :: rest))) (T.setFrames fs) := by
  have hm' : T.vm.method? m = some meth := X.method'
  have hn : narrow .int (.int z) = .int z := rfl
  show Steps p.tables e below (T.setTop { method := m, pc := pc, locals := Ls, stack := _ :: rest, locked := none }) _
  jvm_step X.here [X.here.top, hx, hd, hm', hret, hn]
  first | (intro acts; rw [hl _ acts rfl rfl rfl]) | rw [hl _ _ rfl rfl rfl]
  exact Steps.refl _
end New
section Own
variable {p : Program} {l : Launch} {e : Env} {R : Room} {s : State} {m : MethodId} {args : Array Value} {below : List Frame} {meth : Method} {c : Code} {T A B : State} {locs : List Loc} {cells slots k n : Nat} {Q : Option Value → Heap → List Loc → Prop}
/-- from A the walk comes to its end, and Q holds there -/
def own_Go (p : Program) (e : Env) (below : List Frame) (s : State) (Q : Option Value → Heap → List Loc → Prop) (k n : Nat) (A : State) : Prop :=
  ∃ s₂ o, Steps p.tables e below A s₂ ∧ s₂.status = .running ∧ Ended s₂ below o ∧ ∃ v L, o = .returned v ∧ Q v s₂.heap L ∧ FrameEnd s o s₂ L k n
theorem own_st (h : ∀ t, Steps p.tables e below B t → Steps p.tables e below A t) (g : own_Go p e below s Q k n B) : own_Go p e below s Q k n A := by
  obtain ⟨s₂, o, h1, r⟩ := g
  exact ⟨s₂, o, h _ h1, r⟩
theorem own_tr (h : Steps p.tables e below A B) (g : own_Go p e below s Q k n B) : own_Go p e below s Q k n A := own_st (fun _ q => h.trans q) g
theorem own_end (X : Stand p l e R s m args below meth c T locs cells slots) (hlk : meth.locks = false) {v : Option Value} (hv : meth.sig.returnType = none → v = none) (hk : cells ≤ k) (hn : slots ≤ n) (hQ : Q v T.heap locs) {g : JFrame}
    (hgo : ∀ fs, (∀ (f : JFrame) (acts : List Action), f.method = m → f.locked = none → f.entered = [] → (doReturn e (T.setTop f) acts v).1 = T.setFrames fs) → Steps p.tables e below (T.setTop g) (T.setFrames fs)) : own_Go p e below s Q k n (T.setTop g) := by
  obtain ⟨fs, hr, hrun, hended, hW, hsame⟩ := X.leave hv hlk
  exact ⟨_, _, hgo fs hr, hrun, hended, v, locs, rfl, hQ, ⟨_, rfl⟩, hW, hsame.mono hk hn⟩
theorem own_retI (X : Stand p l e R s m args below meth c T locs cells slots) (hx : p.tables.exec = Jvm.exec) (hlk : meth.locks = false) {pc : Nat} {Ls : Array Slot} {z : Int32} {rest : List Value} (hret : meth.sig.returnType = some .int) (hd : decode c.code pc = .ok (.ireturn, 1)) (hk : cells ≤ k) (hn : slots ≤ n) (hQ : Q (some (.int z)) T.heap locs) :
    own_Go p e below s Q k n (T.setTop (mkF m pc Ls (.int z :: rest))) := own_end X hlk (fun h => by rw [hret] at h; cases h) hk hn hQ fun fs hr => retI X hx hret hd hr
theorem own_retN (X : Stand p l e R s m args below meth c T locs cells slots) (hx : p.tables.exec = Jvm.exec) (hlk : meth.locks = false) {pc : Nat} {Ls : Array Slot} {z z' : Int32} {rest : List Value} {t : FieldType} (hret : meth.sig.returnType = some t) (ht : t = .boolean ∨ t = .byte ∨ t = .char ∨ t = .short) (hz : nar t z = z') (hd : decode c.code pc = .ok (.ireturn, 1)) (hk : cells ≤ k) (hn : slots ≤ n) (hQ : Q (some (.int z')) T.heap locs) :
    own_Go p e below s Q k n (T.setTop (mkF m pc Ls (.int z :: rest))) := own_end X hlk (v := some (.int (nar t z))) (fun h => by rw [hret] at h; cases h) hk hn (hz ▸ hQ) fun fs hr => retN X hx hret ht hd hr
theorem own_retJ (X : Stand p l e R s m args below meth c T locs cells slots) (hx : p.tables.exec = Jvm.exec) (hlk : meth.locks = false) {pc : Nat} {Ls : Array Slot} {z : Int64} {rest : List Value} (hret : meth.sig.returnType = some .long) (hd : decode c.code pc = .ok (.lreturn, 1)) (hk : cells ≤ k) (hn : slots ≤ n) (hQ : Q (some (.long z)) T.heap locs) :
    own_Go p e below s Q k n (T.setTop (mkF m pc Ls (.long z :: rest))) := own_end X hlk (fun h => by rw [hret] at h; cases h) hk hn hQ fun fs hr => retOut X hx hret rfl (Or.inr (Or.inl ⟨rfl, rfl, _, rfl⟩)) hd hr
theorem own_retA (X : Stand p l e R s m args below meth c T locs cells slots) (hx : p.tables.exec = Jvm.exec) (hlk : meth.locks = false) {pc : Nat} {Ls : Array Slot} {w : Value} {t : FieldType} {rest : List Value} (hret : meth.sig.returnType = some t) (hw : w.isRef = true) (hd : decode c.code pc = .ok (.areturn, 1)) (hk : cells ≤ k) (hn : slots ≤ n) (hQ : Q (some w) T.heap locs) (ht : t.isReference = true := by rfl) :
    own_Go p e below s Q k n (T.setTop (mkF m pc Ls (w :: rest))) := own_end X hlk (fun h => by rw [hret] at h; cases h) hk hn hQ fun fs hr => retOut X hx hret (by cases w <;> first | (cases hw; done) | (cases t <;> first | (cases ht; done) | rfl)) (Or.inr (Or.inr (Or.inr (Or.inr ⟨rfl, ht, hw⟩)))) hd hr
theorem own_ret0 (X : Stand p l e R s m args below meth c T locs cells slots) (hx : p.tables.exec = Jvm.exec) (hlk : meth.locks = false) {pc : Nat} {Ls : Array Slot} (hret : meth.sig.returnType = none) (hd : decode c.code pc = .ok (.return_, 1)) (hk : cells ≤ k) (hn : slots ≤ n) (hQ : Q none T.heap locs) :
    own_Go p e below s Q k n (T.setTop (mkF m pc Ls [])) := own_end X hlk (fun _ => rfl) hk hn hQ fun fs hr => X.returnOut hx hret hd hr
end Own
theorem own_narR {C : String} {v : Value} (h : v.isRef = true) : narrow (.object C) v = v := by cases v <;> first | rfl | (cases h; done)
theorem own_fitR {C : String} {v : Value} (h : v.isRef = true) : fits (.object C) v = true := by cases v <;> first | rfl | (cases h; done)
theorem own_hp {T : State} {h : Heap} {a : Addr} {c : Cell} (e : T.heap = h) (q : h[a]? = some c) : T.heap[a]? = some c := e ▸ q
theorem own_pad (n : Nat) (d : Value) (i : Nat) : (List.replicate n d).getD i d = ([] : List Value).getD i d := by
  have h := pad_rep [] d n i
  simpa using h
end Jvm.RoadKit
namespace Jvm.Pilot.@@N@@
open Jvm Jvm.ClassFile Sem Op Lib Jvm.Free Jvm.Stand Jvm.LawKit Jvm.RoadKit Bundle Jvm.Pilot.@@N@@.Jvm.D
theorem own_eqV {args : Array Value} {first s : State} {o : Option Outcome} {idx : List Nat} {t u : Term} {w : Value} (h : (Cond.eq t u).value args first o s idx = some true) (hu : u.eval args first o idx s = some w) : t.eval args first o idx s = some w := by
  simp only [Cond.value, hu] at h
  cases ht : t.eval args first o idx s with
  | none => simp [ht] at h
  | some v => cases v <;> cases w <;> simp_all

theorem own_rem (x n : Int32) (hn : 0 < n.toInt) : 0 ≤ ((x &&& (2147483647 : Int32)) % n).toInt ∧ ((x &&& (2147483647 : Int32)) % n).toInt < n.toInt := by
  have h : ¬ (x &&& (2147483647 : Int32)) < 0 := by
    rw [XT.and_neg32]
    intro h
    exact absurd h.2 (by decide)
  rw [XT.negI32] at h
  rw [Int32.toInt_mod]
  exact ⟨Int.tmod_nonneg _ (by omega), Int.tmod_lt_of_pos _ hn⟩
theorem own_nat {k : Int32} {n : Nat} (hn : n ≤ 2147483647) (h0 : 0 ≤ k.toInt) (h1 : k.toInt < n) : ∃ i : Nat, i < n ∧ k = i.toInt32 :=
  ⟨k.toInt.toNat, by omega, Int32.toInt_inj.mp (by rw [len_toInt (by omega)]; omega)⟩
theorem own_remN (x m : Int32) (n : Nat) (hm : m.toInt = n) (hn : 0 < n) (hn' : n ≤ 2147483647) : ∃ i : Nat, i < n ∧ (x &&& (2147483647 : Int32)) % m = i.toInt32 := by
  have h := own_rem x m (by omega)
  exact own_nat hn' h.1 (by omega)
theorem own_lits17 (x : Int32) : (x &&& (2147483647 : Int32)) % (17 : Int32) = 0 ∨ (x &&& (2147483647 : Int32)) % (17 : Int32) = 1 ∨ (x &&& (2147483647 : Int32)) % (17 : Int32) = 2 ∨ (x &&& (2147483647 : Int32)) % (17 : Int32) = 3 ∨ (x &&& (2147483647 : Int32)) % (17 : Int32) = 4 ∨ (x &&& (2147483647 : Int32)) % (17 : Int32) = 5 ∨ (x &&& (2147483647 : Int32)) % (17 : Int32) = 6 ∨ (x &&& (2147483647 : Int32)) % (17 : Int32) = 7 ∨ (x &&& (2147483647 : Int32)) % (17 : Int32) = 8 ∨ (x &&& (2147483647 : Int32)) % (17 : Int32) = 9 ∨ (x &&& (2147483647 : Int32)) % (17 : Int32) = 10 ∨ (x &&& (2147483647 : Int32)) % (17 : Int32) = 11 ∨ (x &&& (2147483647 : Int32)) % (17 : Int32) = 12 ∨ (x &&& (2147483647 : Int32)) % (17 : Int32) = 13 ∨ (x &&& (2147483647 : Int32)) % (17 : Int32) = 14 ∨ (x &&& (2147483647 : Int32)) % (17 : Int32) = 15 ∨ (x &&& (2147483647 : Int32)) % (17 : Int32) = 16 := by
  obtain ⟨i, hi, e⟩ := own_remN x 17 17 (by decide) (by decide) (by decide)
  rw [e]
  have h : i = 0 ∨ i = 1 ∨ i = 2 ∨ i = 3 ∨ i = 4 ∨ i = 5 ∨ i = 6 ∨ i = 7 ∨ i = 8 ∨ i = 9 ∨ i = 10 ∨ i = 11 ∨ i = 12 ∨ i = 13 ∨ i = 14 ∨ i = 15 ∨ i = 16 := by omega
  rcases h with rfl | rfl | rfl | rfl | rfl | rfl | rfl | rfl | rfl | rfl | rfl | rfl | rfl | rfl | rfl | rfl | rfl <;> decide
def own_mins (k : Int32) : Int32 := if k = 0 then 3 else if k = 1 then 4 else if k = 2 then 1 else if k = 3 then 0 else if k = 4 then 0 else if k = 5 then 0 else if k = 6 then 0 else if k = 7 then 0 else if k = 8 then 0 else if k = 9 then 0 else if k = 10 then 0 else if k = 11 then 0 else if k = 12 then 0 else if k = 13 then 0 else if k = 14 then 0 else if k = 15 then 0 else 0
def own_maxs (k : Int32) : Int32 := if k = 0 then 7 else if k = 1 then 11 else if k = 2 then 2 else if k = 3 then 4 else if k = 4 then 7 else if k = 5 then 7 else if k = 6 then 2 else if k = 7 then 5 else if k = 8 then 3 else if k = 9 then 1 else if k = 10 then 3 else if k = 11 then 3 else if k = 12 then 4 else if k = 13 then 0 else if k = 14 then 0 else if k = 15 then 1 else 3
theorem own_d_prog_37_method_8_code_0 : decode prog_37_method_8_code 0 = .ok (.iload_n 1, 1) := by decide +kernel
theorem own_d_prog_37_method_8_code_1 : decode prog_37_method_8_code 1 = .ok (.aload_n 0, 1) := by decide +kernel
theorem own_d_prog_37_method_8_code_2 : decode prog_37_method_8_code 2 = .ok (.getfield 78, 3) := by decide +kernel
theorem own_d_prog_37_method_8_code_5 : decode prog_37_method_8_code 5 = .ok (.if_icmp .lt 15, 3) := by decide +kernel
theorem own_d_prog_37_method_8_code_8 : decode prog_37_method_8_code 8 = .ok (.iload_n 1, 1) := by decide +kernel
theorem own_d_prog_37_method_8_code_9 : decode prog_37_method_8_code 9 = .ok (.aload_n 0, 1) := by decide +kernel
theorem own_d_prog_37_method_8_code_10 : decode prog_37_method_8_code 10 = .ok (.getfield 81, 3) := by decide +kernel
theorem own_d_prog_37_method_8_code_13 : decode prog_37_method_8_code 13 = .ok (.if_icmp .gt 7, 3) := by decide +kernel
theorem own_d_prog_37_method_8_code_16 : decode prog_37_method_8_code 16 = .ok (.iconst 1, 1) := by decide +kernel
theorem own_d_prog_37_method_8_code_17 : decode prog_37_method_8_code 17 = .ok (.goto 4, 3) := by decide +kernel
theorem own_d_prog_37_method_8_code_20 : decode prog_37_method_8_code 20 = .ok (.iconst 0, 1) := by decide +kernel
theorem own_d_prog_37_method_8_code_21 : decode prog_37_method_8_code 21 = .ok (.ireturn, 1) := by decide +kernel
theorem own_pn0 : plainFor (⟨"com/example/epoch/epoch/protocol/ApiKey", "supports", "(S)Z"⟩ : MethodName) = true := by decide +kernel
def own_rm_supports_Q (Z : State) (r : Addr) (p1 : Int32) (mn : Int32) (mx : Int32) (h0 : Heap) (n0 : Nat) (v : Option Value) (h : Heap) (L : List Loc) : Prop := Fr n0 L ∧ v = some (.int (if p1 < mn then (0 : Int32) else if mx < p1 then 0 else 1)) ∧ h = h0
theorem own_rm_supports_ef (m : MethodId) (r : Addr) (p1 : Int32)  : entryFrame m #[(.ref r), (.int p1)] 2 = mkF m 0 #[.val (.ref r), .val (.int p1)] [] := by first | (simp [entryFrame, mkF, argsToLocals, Value.category]; done) | rfl
set_option maxRecDepth 65536 in
set_option maxHeartbeats 40000000 in
theorem own_rm_supports (l : Launch) (Z : State) (a0 : Array Value) (hw : ∀ d ∈ tables_1, d.before a0 Z = true) (ws : List Jvm.Cond) (r : Addr) (p1 : Int32) (mn : Int32) (mx : Int32) (h0 : Heap) (n0 : Nat) (Z0 : n0 ≤ h0.size) (F2 : Fld Z h0 r "com/example/epoch/epoch/protocol/ApiKey" "minVersion" "S" (.int mn)) (F3 : Fld Z h0 r "com/example/epoch/epoch/protocol/ApiKey" "maxVersion" "S" (.int mx)) :
    MetFree l (⟨"com/example/epoch/epoch/protocol/ApiKey", "supports", "(S)Z"⟩ : MethodName) (head1 (Jvm.Cond.code (⟨"com/example/epoch/epoch/protocol/ApiKey", "supports", "(S)Z"⟩ : MethodName) prog_37_method_8_code 2 (some .boolean) :: ws) ({ frames := 0, cells := 0, slots := 0, locals := 0 } : Room)) (fun aQ UQ => aQ = #[(.ref r), (.int p1)] ∧ Z.Warmed39 UQ.vm ∧ UQ.heap = h0) (fun _ _ _ _ _ => True) (fun _ UQ oQ U2 => ∃ vQ LQ, oQ = .returned vQ ∧ own_rm_supports_Q Z r p1 mn mx h0 n0 vQ U2.heap LQ ∧ FrameEnd UQ oQ U2 LQ ({ frames := 0, cells := 0, slots := 0, locals := 0 } : Room).cells ({ frames := 0, cells := 0, slots := 0, locals := 0 } : Room).slots) := by
  refine MetFree.of_bodySF own_pn0 hisR ?_
  intro p e s m args below meth c s₁ Bd hml0 hP hK
  obtain ⟨rfl, hZ, hh⟩ := hP
  have hx := Bd.exec
  have hby := Bd.bytes
  have hml : c.maxLocals = 2 := hml0
  have hlk := BodyLoose.notSynchronized Bd
  have hown : s.vm.findClass "com/example/epoch/epoch/protocol/ApiKey" = some m.cls := findClass_of_methodNamed Bd.named
  have hnm := (name_of_methodNamed Bd.named Bd.method).1
  have X0 : Stand p l e ({ frames := 0, cells := 0, slots := 0, locals := 0 } : Room) s m #[(.ref r), (.int p1)] below meth c s₁ [] 0 0 := Stand.of_body Bd
  have e0 : s₁.heap = h0 := by rw [← hh, Bd.state]; rfl
  have N0 := Fr.nil n0
  show own_Go p e below s (own_rm_supports_Q Z r p1 mn mx h0 n0) ({ frames := 0, cells := 0, slots := 0, locals := 0 } : Room).cells ({ frames := 0, cells := 0, slots := 0, locals := 0 } : Room).slots (s₁.setTop (entryFrame m #[(.ref r), (.int p1)] 2))
  rw [own_rm_supports_ef]
  show own_Go p e below s _ _ _ (s₁.setTop (mkF m 0 #[.val (.ref r), .val (.int p1)] []))
  refine own_st (fun _ kQ => XS.iloadN X0.here hx rfl (hb hby own_d_prog_37_method_8_code_0) rfl kQ) ?_
  show own_Go p e below s _ _ _ (s₁.setTop (mkF m 1 #[.val (.ref r), .val (.int p1)] [(.int p1)]))
  refine own_st (fun _ kQ => XS.aloadN X0.here hx rfl (hb hby own_d_prog_37_method_8_code_1) rfl rfl kQ) ?_
  show own_Go p e below s _ _ _ (s₁.setTop (mkF m 2 #[.val (.ref r), .val (.int p1)] [(.ref r), (.int p1)]))
  obtain ⟨T1, X1, e1, st1⟩ := getF X0 hx hZ hown (host := "") (Or.inl (hw _ (List.mem_of_getElem? (i := 45) rfl))) Via.refl e0 F2 (g := (mkF m 2 #[.val (.ref r), .val (.int p1)] [(.ref r), (.int p1)])) rfl rfl (hb hby own_d_prog_37_method_8_code_2)
  refine own_st st1 ?_
  show own_Go p e below s _ _ _ (T1.setTop (mkF m 5 #[.val (.ref r), .val (.int p1)] [(.int mn), (.int p1)]))
  by_cases hc2 : p1 < mn
  · refine own_st (fun _ kQ => XS.icmpYes X1.here hx rfl (pc0 := 5) (pc' := 20) rfl (hb hby own_d_prog_37_method_8_code_5) rfl (XT.ii_lt_t hc2) (by decide) (by decide) kQ) ?_
    show own_Go p e below s _ _ _ (T1.setTop (mkF m 20 #[.val (.ref r), .val (.int p1)] []))
    refine own_st (fun _ kQ => XT.iconstV X1.here hx rfl (0 : Int32) (hb hby own_d_prog_37_method_8_code_20) (by decide) kQ) ?_
    show own_Go p e below s _ _ _ (T1.setTop (mkF m 21 #[.val (.ref r), .val (.int p1)] [(.int (0 : Int32))]))
    refine own_retN X1 hx hlk Bd.returns (t := .boolean) (z' := (0 : Int32)) (by simp) (by decide) (hb hby own_d_prog_37_method_8_code_21) (by decide) (by decide) ?_
    rw [e1]
    exact ⟨N0, (by rw [if_pos hc2]), rfl⟩
  · refine own_st (fun _ kQ => XS.icmpNo X1.here hx rfl (hb hby own_d_prog_37_method_8_code_5) rfl (XT.ii_lt_f hc2) kQ) ?_
    show own_Go p e below s _ _ _ (T1.setTop (mkF m 8 #[.val (.ref r), .val (.int p1)] []))
    refine own_st (fun _ kQ => XS.iloadN X1.here hx rfl (hb hby own_d_prog_37_method_8_code_8) rfl kQ) ?_
    show own_Go p e below s _ _ _ (T1.setTop (mkF m 9 #[.val (.ref r), .val (.int p1)] [(.int p1)]))
    refine own_st (fun _ kQ => XS.aloadN X1.here hx rfl (hb hby own_d_prog_37_method_8_code_9) rfl rfl kQ) ?_
    show own_Go p e below s _ _ _ (T1.setTop (mkF m 10 #[.val (.ref r), .val (.int p1)] [(.ref r), (.int p1)]))
    obtain ⟨T3, X3, e3, st3⟩ := getF X1 hx hZ hown (host := "") (Or.inl (hw _ (List.mem_of_getElem? (i := 47) rfl))) Via.refl e1 F3 (g := (mkF m 10 #[.val (.ref r), .val (.int p1)] [(.ref r), (.int p1)])) rfl rfl (hb hby own_d_prog_37_method_8_code_10)
    refine own_st st3 ?_
    show own_Go p e below s _ _ _ (T3.setTop (mkF m 13 #[.val (.ref r), .val (.int p1)] [(.int mx), (.int p1)]))
    by_cases hc4 : mx < p1
    · refine own_st (fun _ kQ => XS.icmpYes X3.here hx rfl (pc0 := 13) (pc' := 20) rfl (hb hby own_d_prog_37_method_8_code_13) rfl (XT.ii_gt_t hc4) (by decide) (by decide) kQ) ?_
      show own_Go p e below s _ _ _ (T3.setTop (mkF m 20 #[.val (.ref r), .val (.int p1)] []))
      refine own_st (fun _ kQ => XT.iconstV X3.here hx rfl (0 : Int32) (hb hby own_d_prog_37_method_8_code_20) (by decide) kQ) ?_
      show own_Go p e below s _ _ _ (T3.setTop (mkF m 21 #[.val (.ref r), .val (.int p1)] [(.int (0 : Int32))]))
      refine own_retN X3 hx hlk Bd.returns (t := .boolean) (z' := (0 : Int32)) (by simp) (by decide) (hb hby own_d_prog_37_method_8_code_21) (by decide) (by decide) ?_
      rw [e3]
      exact ⟨N0, (by rw [if_neg hc2, if_pos hc4]), rfl⟩
    · refine own_st (fun _ kQ => XS.icmpNo X3.here hx rfl (hb hby own_d_prog_37_method_8_code_13) rfl (XT.ii_gt_f hc4) kQ) ?_
      show own_Go p e below s _ _ _ (T3.setTop (mkF m 16 #[.val (.ref r), .val (.int p1)] []))
      refine own_st (fun _ kQ => XT.iconstV X3.here hx rfl (1 : Int32) (hb hby own_d_prog_37_method_8_code_16) (by decide) kQ) ?_
      show own_Go p e below s _ _ _ (T3.setTop (mkF m 17 #[.val (.ref r), .val (.int p1)] [(.int (1 : Int32))]))
      refine own_st (fun _ kQ => XS.goto X3.here hx rfl (pc0 := 17) (pc' := 21) rfl (hb hby own_d_prog_37_method_8_code_17) (by decide) (by decide) kQ) ?_
      show own_Go p e below s _ _ _ (T3.setTop (mkF m 21 #[.val (.ref r), .val (.int p1)] [(.int (1 : Int32))]))
      refine own_retN X3 hx hlk Bd.returns (t := .boolean) (z' := (1 : Int32)) (by simp) (by decide) (hb hby own_d_prog_37_method_8_code_21) (by decide) (by decide) ?_
      rw [e3]
      exact ⟨N0, (by rw [if_neg hc2, if_neg hc4]), rfl⟩
theorem own_pn1 : plainFor (⟨"com/example/epoch/epoch/protocol/ApiKeySupportsPinLaw", "law", "(III)Z"⟩ : MethodName) = true := by decide +kernel
theorem own_pd0 : parseMethodDescriptor "(S)Z" = some ⟨[.short], some .boolean⟩ := by decide +kernel
def own_law_Q (Z : State) (n0 : Nat) (v : Option Value) (h : Heap) (L : List Loc) : Prop := Fr n0 L ∧ v = some (.int 1)
theorem own_law_ef (m : MethodId) (p1 : Int32) (p2 : Int32) (p3 : Int32) : entryFrame m #[(.int p1), (.int p2), (.int p3)] maxLocals = mkF m 0 #[.val (.int p1), .val (.int p2), .val (.int p3), .unset, .unset, .unset, .unset, .unset, .unset, .unset, .unset, .unset] [] := by first | (simp [entryFrame, mkF, argsToLocals, Value.category, maxLocals]; done) | rfl
set_option maxRecDepth 65536 in
set_option maxHeartbeats 40000000 in
theorem own_law (l : Launch) (Z : State) (a0 : Array Value) (hw : ∀ d ∈ tables_1, d.before a0 Z = true) (ws : List Jvm.Cond) (p1 : Int32) (p2 : Int32) (p3 : Int32) (a_PRODUCE : Addr) (a_FETCH : Addr) (a_LIST_OFFSETS : Addr) (a_METADATA : Addr) (a_OFFSET_COMMIT : Addr) (a_OFFSET_FETCH : Addr) (a_FIND_COORDINATOR : Addr) (a_JOIN_GROUP : Addr) (a_HEARTBEAT : Addr) (a_LEAVE_GROUP : Addr) (a_SYNC_GROUP : Addr) (a_API_VERSIONS : Addr) (a_INIT_PRODUCER_ID : Addr) (a_ADD_PARTITIONS_TO_TXN : Addr) (a_ADD_OFFSETS_TO_TXN : Addr) (a_END_TXN : Addr) (a_TXN_OFFSET_COMMIT : Addr) (h0 : Heap) (n0 : Nat) (Z0 : n0 ≤ h0.size) (O0 : Old Z n0 h0) (Ex_a_PRODUCE : Exa Z Z.heap a_PRODUCE "com/example/epoch/epoch/protocol/ApiKey") (S_a_PRODUCE : Sta Z Z.heap "com/example/epoch/epoch/protocol/ApiKey" "PRODUCE" "Lcom/example/epoch/epoch/protocol/ApiKey;" (.ref a_PRODUCE)) (Ex_a_FETCH : Exa Z Z.heap a_FETCH "com/example/epoch/epoch/protocol/ApiKey") (S_a_FETCH : Sta Z Z.heap "com/example/epoch/epoch/protocol/ApiKey" "FETCH" "Lcom/example/epoch/epoch/protocol/ApiKey;" (.ref a_FETCH)) (Ex_a_LIST_OFFSETS : Exa Z Z.heap a_LIST_OFFSETS "com/example/epoch/epoch/protocol/ApiKey") (S_a_LIST_OFFSETS : Sta Z Z.heap "com/example/epoch/epoch/protocol/ApiKey" "LIST_OFFSETS" "Lcom/example/epoch/epoch/protocol/ApiKey;" (.ref a_LIST_OFFSETS)) (Ex_a_METADATA : Exa Z Z.heap a_METADATA "com/example/epoch/epoch/protocol/ApiKey") (S_a_METADATA : Sta Z Z.heap "com/example/epoch/epoch/protocol/ApiKey" "METADATA" "Lcom/example/epoch/epoch/protocol/ApiKey;" (.ref a_METADATA)) (Ex_a_OFFSET_COMMIT : Exa Z Z.heap a_OFFSET_COMMIT "com/example/epoch/epoch/protocol/ApiKey") (S_a_OFFSET_COMMIT : Sta Z Z.heap "com/example/epoch/epoch/protocol/ApiKey" "OFFSET_COMMIT" "Lcom/example/epoch/epoch/protocol/ApiKey;" (.ref a_OFFSET_COMMIT)) (Ex_a_OFFSET_FETCH : Exa Z Z.heap a_OFFSET_FETCH "com/example/epoch/epoch/protocol/ApiKey") (S_a_OFFSET_FETCH : Sta Z Z.heap "com/example/epoch/epoch/protocol/ApiKey" "OFFSET_FETCH" "Lcom/example/epoch/epoch/protocol/ApiKey;" (.ref a_OFFSET_FETCH)) (Ex_a_FIND_COORDINATOR : Exa Z Z.heap a_FIND_COORDINATOR "com/example/epoch/epoch/protocol/ApiKey") (S_a_FIND_COORDINATOR : Sta Z Z.heap "com/example/epoch/epoch/protocol/ApiKey" "FIND_COORDINATOR" "Lcom/example/epoch/epoch/protocol/ApiKey;" (.ref a_FIND_COORDINATOR)) (Ex_a_JOIN_GROUP : Exa Z Z.heap a_JOIN_GROUP "com/example/epoch/epoch/protocol/ApiKey") (S_a_JOIN_GROUP : Sta Z Z.heap "com/example/epoch/epoch/protocol/ApiKey" "JOIN_GROUP" "Lcom/example/epoch/epoch/protocol/ApiKey;" (.ref a_JOIN_GROUP)) (Ex_a_HEARTBEAT : Exa Z Z.heap a_HEARTBEAT "com/example/epoch/epoch/protocol/ApiKey") (S_a_HEARTBEAT : Sta Z Z.heap "com/example/epoch/epoch/protocol/ApiKey" "HEARTBEAT" "Lcom/example/epoch/epoch/protocol/ApiKey;" (.ref a_HEARTBEAT)) (Ex_a_LEAVE_GROUP : Exa Z Z.heap a_LEAVE_GROUP "com/example/epoch/epoch/protocol/ApiKey") (S_a_LEAVE_GROUP : Sta Z Z.heap "com/example/epoch/epoch/protocol/ApiKey" "LEAVE_GROUP" "Lcom/example/epoch/epoch/protocol/ApiKey;" (.ref a_LEAVE_GROUP)) (Ex_a_SYNC_GROUP : Exa Z Z.heap a_SYNC_GROUP "com/example/epoch/epoch/protocol/ApiKey") (S_a_SYNC_GROUP : Sta Z Z.heap "com/example/epoch/epoch/protocol/ApiKey" "SYNC_GROUP" "Lcom/example/epoch/epoch/protocol/ApiKey;" (.ref a_SYNC_GROUP)) (Ex_a_API_VERSIONS : Exa Z Z.heap a_API_VERSIONS "com/example/epoch/epoch/protocol/ApiKey") (S_a_API_VERSIONS : Sta Z Z.heap "com/example/epoch/epoch/protocol/ApiKey" "API_VERSIONS" "Lcom/example/epoch/epoch/protocol/ApiKey;" (.ref a_API_VERSIONS)) (Ex_a_INIT_PRODUCER_ID : Exa Z Z.heap a_INIT_PRODUCER_ID "com/example/epoch/epoch/protocol/ApiKey") (S_a_INIT_PRODUCER_ID : Sta Z Z.heap "com/example/epoch/epoch/protocol/ApiKey" "INIT_PRODUCER_ID" "Lcom/example/epoch/epoch/protocol/ApiKey;" (.ref a_INIT_PRODUCER_ID)) (Ex_a_ADD_PARTITIONS_TO_TXN : Exa Z Z.heap a_ADD_PARTITIONS_TO_TXN "com/example/epoch/epoch/protocol/ApiKey") (S_a_ADD_PARTITIONS_TO_TXN : Sta Z Z.heap "com/example/epoch/epoch/protocol/ApiKey" "ADD_PARTITIONS_TO_TXN" "Lcom/example/epoch/epoch/protocol/ApiKey;" (.ref a_ADD_PARTITIONS_TO_TXN)) (Ex_a_ADD_OFFSETS_TO_TXN : Exa Z Z.heap a_ADD_OFFSETS_TO_TXN "com/example/epoch/epoch/protocol/ApiKey") (S_a_ADD_OFFSETS_TO_TXN : Sta Z Z.heap "com/example/epoch/epoch/protocol/ApiKey" "ADD_OFFSETS_TO_TXN" "Lcom/example/epoch/epoch/protocol/ApiKey;" (.ref a_ADD_OFFSETS_TO_TXN)) (Ex_a_END_TXN : Exa Z Z.heap a_END_TXN "com/example/epoch/epoch/protocol/ApiKey") (S_a_END_TXN : Sta Z Z.heap "com/example/epoch/epoch/protocol/ApiKey" "END_TXN" "Lcom/example/epoch/epoch/protocol/ApiKey;" (.ref a_END_TXN)) (Ex_a_TXN_OFFSET_COMMIT : Exa Z Z.heap a_TXN_OFFSET_COMMIT "com/example/epoch/epoch/protocol/ApiKey") (S_a_TXN_OFFSET_COMMIT : Sta Z Z.heap "com/example/epoch/epoch/protocol/ApiKey" "TXN_OFFSET_COMMIT" "Lcom/example/epoch/epoch/protocol/ApiKey;" (.ref a_TXN_OFFSET_COMMIT)) (F_PRODUCE_minVersion : Fld Z Z.heap a_PRODUCE "com/example/epoch/epoch/protocol/ApiKey" "minVersion" "S" (.int (3 : Int32))) (F_PRODUCE_maxVersion : Fld Z Z.heap a_PRODUCE "com/example/epoch/epoch/protocol/ApiKey" "maxVersion" "S" (.int (7 : Int32))) (F_FETCH_minVersion : Fld Z Z.heap a_FETCH "com/example/epoch/epoch/protocol/ApiKey" "minVersion" "S" (.int (4 : Int32))) (F_FETCH_maxVersion : Fld Z Z.heap a_FETCH "com/example/epoch/epoch/protocol/ApiKey" "maxVersion" "S" (.int (11 : Int32))) (F_API_VERSIONS_minVersion : Fld Z Z.heap a_API_VERSIONS "com/example/epoch/epoch/protocol/ApiKey" "minVersion" "S" (.int (0 : Int32))) (F_API_VERSIONS_maxVersion : Fld Z Z.heap a_API_VERSIONS "com/example/epoch/epoch/protocol/ApiKey" "maxVersion" "S" (.int (3 : Int32))) (F_HEARTBEAT_minVersion : Fld Z Z.heap a_HEARTBEAT "com/example/epoch/epoch/protocol/ApiKey" "minVersion" "S" (.int (0 : Int32))) (F_HEARTBEAT_maxVersion : Fld Z Z.heap a_HEARTBEAT "com/example/epoch/epoch/protocol/ApiKey" "maxVersion" "S" (.int (3 : Int32))) (F_INIT_PRODUCER_ID_minVersion : Fld Z Z.heap a_INIT_PRODUCER_ID "com/example/epoch/epoch/protocol/ApiKey" "minVersion" "S" (.int (0 : Int32))) (F_ADD_PARTITIONS_TO_TXN_minVersion : Fld Z Z.heap a_ADD_PARTITIONS_TO_TXN "com/example/epoch/epoch/protocol/ApiKey" "minVersion" "S" (.int (0 : Int32))) (F_ADD_PARTITIONS_TO_TXN_maxVersion : Fld Z Z.heap a_ADD_PARTITIONS_TO_TXN "com/example/epoch/epoch/protocol/ApiKey" "maxVersion" "S" (.int (0 : Int32))) (F_METADATA_minVersion : Fld Z Z.heap a_METADATA "com/example/epoch/epoch/protocol/ApiKey" "minVersion" "S" (.int (0 : Int32))) (F_METADATA_maxVersion : Fld Z Z.heap a_METADATA "com/example/epoch/epoch/protocol/ApiKey" "maxVersion" "S" (.int (4 : Int32))) (F_SYNC_GROUP_minVersion : Fld Z Z.heap a_SYNC_GROUP "com/example/epoch/epoch/protocol/ApiKey" "minVersion" "S" (.int (0 : Int32))) (F_SYNC_GROUP_maxVersion : Fld Z Z.heap a_SYNC_GROUP "com/example/epoch/epoch/protocol/ApiKey" "maxVersion" "S" (.int (3 : Int32))) (F_TXN_OFFSET_COMMIT_minVersion : Fld Z Z.heap a_TXN_OFFSET_COMMIT "com/example/epoch/epoch/protocol/ApiKey" "minVersion" "S" (.int (0 : Int32))) (F_TXN_OFFSET_COMMIT_maxVersion : Fld Z Z.heap a_TXN_OFFSET_COMMIT "com/example/epoch/epoch/protocol/ApiKey" "maxVersion" "S" (.int (3 : Int32))) (F_JOIN_GROUP_minVersion : Fld Z Z.heap a_JOIN_GROUP "com/example/epoch/epoch/protocol/ApiKey" "minVersion" "S" (.int (0 : Int32))) (F_LIST_OFFSETS_minVersion : Fld Z Z.heap a_LIST_OFFSETS "com/example/epoch/epoch/protocol/ApiKey" "minVersion" "S" (.int (1 : Int32))) (F_LIST_OFFSETS_maxVersion : Fld Z Z.heap a_LIST_OFFSETS "com/example/epoch/epoch/protocol/ApiKey" "maxVersion" "S" (.int (2 : Int32))) (F_OFFSET_COMMIT_minVersion : Fld Z Z.heap a_OFFSET_COMMIT "com/example/epoch/epoch/protocol/ApiKey" "minVersion" "S" (.int (0 : Int32))) (F_OFFSET_COMMIT_maxVersion : Fld Z Z.heap a_OFFSET_COMMIT "com/example/epoch/epoch/protocol/ApiKey" "maxVersion" "S" (.int (7 : Int32))) (F_OFFSET_FETCH_minVersion : Fld Z Z.heap a_OFFSET_FETCH "com/example/epoch/epoch/protocol/ApiKey" "minVersion" "S" (.int (0 : Int32))) (F_JOIN_GROUP_maxVersion : Fld Z Z.heap a_JOIN_GROUP "com/example/epoch/epoch/protocol/ApiKey" "maxVersion" "S" (.int (5 : Int32))) (F_OFFSET_FETCH_maxVersion : Fld Z Z.heap a_OFFSET_FETCH "com/example/epoch/epoch/protocol/ApiKey" "maxVersion" "S" (.int (7 : Int32))) (F_ADD_OFFSETS_TO_TXN_minVersion : Fld Z Z.heap a_ADD_OFFSETS_TO_TXN "com/example/epoch/epoch/protocol/ApiKey" "minVersion" "S" (.int (0 : Int32))) (F_FIND_COORDINATOR_minVersion : Fld Z Z.heap a_FIND_COORDINATOR "com/example/epoch/epoch/protocol/ApiKey" "minVersion" "S" (.int (0 : Int32))) (F_FIND_COORDINATOR_maxVersion : Fld Z Z.heap a_FIND_COORDINATOR "com/example/epoch/epoch/protocol/ApiKey" "maxVersion" "S" (.int (2 : Int32))) (F_LEAVE_GROUP_minVersion : Fld Z Z.heap a_LEAVE_GROUP "com/example/epoch/epoch/protocol/ApiKey" "minVersion" "S" (.int (0 : Int32))) (F_LEAVE_GROUP_maxVersion : Fld Z Z.heap a_LEAVE_GROUP "com/example/epoch/epoch/protocol/ApiKey" "maxVersion" "S" (.int (1 : Int32))) (F_END_TXN_minVersion : Fld Z Z.heap a_END_TXN "com/example/epoch/epoch/protocol/ApiKey" "minVersion" "S" (.int (0 : Int32))) (F_END_TXN_maxVersion : Fld Z Z.heap a_END_TXN "com/example/epoch/epoch/protocol/ApiKey" "maxVersion" "S" (.int (1 : Int32))) (F_ADD_OFFSETS_TO_TXN_maxVersion : Fld Z Z.heap a_ADD_OFFSETS_TO_TXN "com/example/epoch/epoch/protocol/ApiKey" "maxVersion" "S" (.int (0 : Int32))) (F_INIT_PRODUCER_ID_maxVersion : Fld Z Z.heap a_INIT_PRODUCER_ID "com/example/epoch/epoch/protocol/ApiKey" "maxVersion" "S" (.int (4 : Int32))) :
    MetFree l x (head1 (Jvm.Cond.code x code maxLocals ret :: ws) room_1) (fun a U => a = #[(.int p1), (.int p2), (.int p3)] ∧ Z.Warmed39 U.vm ∧ U.heap = h0) (fun _ _ _ _ _ => True) (fun _ U o U' => ∃ v L, o = .returned v ∧ own_law_Q Z n0 v U'.heap L ∧ FrameEnd U o U' L 16 192) := by
  refine MetFree.of_bodySF own_pn1 hisR ?_
  intro p e s m args below meth c s₁ Bd hml0 hP hK
  obtain ⟨rfl, hZ, hh⟩ := hP
  have hx := Bd.exec
  have hby := Bd.bytes
  have hml : c.maxLocals = 12 := hml0
  have hlk := BodyLoose.notSynchronized Bd
  have hown : s.vm.findClass "com/example/epoch/epoch/protocol/ApiKeySupportsPinLaw" = some m.cls := findClass_of_methodNamed Bd.named
  have hnm := (name_of_methodNamed Bd.named Bd.method).1
  have X0 : Stand p l e room_1 s m #[(.int p1), (.int p2), (.int p3)] below meth c s₁ [] 0 0 := Stand.of_body Bd
  have e0 : s₁.heap = h0 := by rw [← hh, Bd.state]; rfl
  have N0 := Fr.nil n0
  show own_Go p e below s (own_law_Q Z n0) 16 192 (s₁.setTop (entryFrame m #[(.int p1), (.int p2), (.int p3)] maxLocals))
  rw [own_law_ef]
  show own_Go p e below s _ _ _ (s₁.setTop (mkF m 0 #[.val (.int p1), .val (.int p2), .val (.int p3), .unset, .unset, .unset, .unset, .unset, .unset, .unset, .unset, .unset] []))
  refine own_st (fun _ kQ => XT.bipushV X0.here hx rfl (17 : Int32) (hb hby at_0) (by decide) kQ) ?_
  show own_Go p e below s _ _ _ (s₁.setTop (mkF m 2 #[.val (.int p1), .val (.int p2), .val (.int p3), .unset, .unset, .unset, .unset, .unset, .unset, .unset, .unset, .unset] [(.int (17 : Int32))]))
  obtain ⟨T5, h5, k5, X5, e5, E5, A5, O5, st5⟩ := newR X0 hx hZ hown (hw _ (List.mem_of_getElem? (i := 0) rfl)) (hw _ (List.mem_of_getElem? (i := 1) rfl)) e0 (g := (mkF m 2 #[.val (.int p1), .val (.int p2), .val (.int p3), .unset, .unset, .unset, .unset, .unset, .unset, .unset, .unset, .unset] [(.int (17 : Int32))])) rfl (hb hby at_2) rfl (by decide) (cap := 17) (by decide) (by decide) (by decide) (by decide)
  obtain ⟨b5, g5⟩ : ∃ z, z = h0.size := ⟨_, rfl⟩
  rw [← g5] at A5 st5
  refine own_st st5 ?_
  have Zs6 : n0 ≤ h5.size := Nat.le_trans Z0 E5.1
  have g7 : n0 ≤ b5 := Nat.le_trans Z0 (Nat.le_of_eq g5.symm)
  have F8 : Arv Z h5 b5 k5 (.object "com/example/epoch/epoch/protocol/ApiKey") (17 : Int32) [.null, .null, .null, .null, .null, .null, .null, .null, .null, .null, .null, .null, .null, .null, .null, .null, .null] .null := (Arv.new A5 (by decide)).pad (fun i => own_pad 17 _ i)
  show own_Go p e below s _ _ _ (T5.setTop (mkF m 5 #[.val (.int p1), .val (.int p2), .val (.int p3), .unset, .unset, .unset, .unset, .unset, .unset, .unset, .unset, .unset] [(.ref b5)]))
  refine own_st (fun _ kQ => XS.dup X5.here hx rfl (hb hby at_5) rfl rfl kQ) ?_
  show own_Go p e below s _ _ _ (T5.setTop (mkF m 6 #[.val (.int p1), .val (.int p2), .val (.int p3), .unset, .unset, .unset, .unset, .unset, .unset, .unset, .unset, .unset] [(.ref b5), (.ref b5)]))
  refine own_st (fun _ kQ => XT.iconstV X5.here hx rfl (0 : Int32) (hb hby at_6) (by decide) kQ) ?_
  show own_Go p e below s _ _ _ (T5.setTop (mkF m 7 #[.val (.int p1), .val (.int p2), .val (.int p3), .unset, .unset, .unset, .unset, .unset, .unset, .unset, .unset, .unset] [(.int (0 : Int32)), (.ref b5), (.ref b5)]))
  have O9 : Old Z n0 h5 := (O0.ext E5)
  have F10 : Sta Z h5 "com/example/epoch/epoch/protocol/ApiKey" "PRODUCE" "Lcom/example/epoch/epoch/protocol/ApiKey;" (.ref a_PRODUCE) := S_a_PRODUCE.ext O9.2
  obtain ⟨T11, X11, e11, st11⟩ := getS2 X5 hx hZ hown (host := "") (Or.inl (hw _ (List.mem_of_getElem? (i := 2) rfl))) Via.refl e5 F10 (g := (mkF m 7 #[.val (.int p1), .val (.int p2), .val (.int p3), .unset, .unset, .unset, .unset, .unset, .unset, .unset, .unset, .unset] [(.int (0 : Int32)), (.ref b5), (.ref b5)])) rfl (hb hby at_7)
  refine own_st st11 ?_
  show own_Go p e below s _ _ _ (T11.setTop (mkF m 10 #[.val (.int p1), .val (.int p2), .val (.int p3), .unset, .unset, .unset, .unset, .unset, .unset, .unset, .unset, .unset] [(.ref a_PRODUCE), (.int (0 : Int32)), (.ref b5), (.ref b5)]))
  obtain ⟨cl12, Ar12, kc12, S12, Nn12, H12, G12⟩ := id F8
  have hin12 : ¬ ((0 : Int32) < 0 ∨ cl12.slots.size ≤ ((0 : Int32) : Int32).toNatClampNeg) := inb_of S12 (by decide)
  have F13 : Exa Z h5 a_PRODUCE "com/example/epoch/epoch/protocol/ApiKey" := Ex_a_PRODUCE.ext O9.2
  obtain ⟨T12, h12, X12, e12, W12, st12⟩ := stR X11 hx hZ e11 Ar12 (j := (0 : Int32)) hin12 rfl (Sto.ofV Ar12 kc12 O5 (Ins.self F13)) (g := (mkF m 10 #[.val (.int p1), .val (.int p2), .val (.int p3), .unset, .unset, .unset, .unset, .unset, .unset, .unset, .unset, .unset] [(.ref a_PRODUCE), (.int (0 : Int32)), (.ref b5), (.ref b5)])) rfl rfl (hb hby at_10)
  refine own_st st12 ?_
  have N14 := Fr.snoc X12 N0 g7
  have F15 : Arv Z h12 b5 k5 (.object "com/example/epoch/epoch/protocol/ApiKey") (17 : Int32) [(.ref a_PRODUCE), .null, .null, .null, .null, .null, .null, .null, .null, .null, .null, .null, .null, .null, .null, .null, .null] .null := Arv.set Ar12 kc12 S12 Nn12 H12 G12 rfl W12 0 (by decide) (Nat.le_of_ble_eq_true rfl)
  have lt16 : b5 < h12.size := Nat.lt_of_lt_of_le A5.lt (Nat.le_of_eq W12.size.symm)
  have Zs17 : n0 ≤ h12.size := Nat.le_trans Zs6 (Nat.le_of_eq W12.size.symm)
  show own_Go p e below s _ _ _ (T12.setTop (mkF m 11 #[.val (.int p1), .val (.int p2), .val (.int p3), .unset, .unset, .unset, .unset, .unset, .unset, .unset, .unset, .unset] [(.ref b5)]))
  refine own_st (fun _ kQ => XS.dup X12.here hx rfl (hb hby at_11) rfl rfl kQ) ?_
  show own_Go p e below s _ _ _ (T12.setTop (mkF m 12 #[.val (.int p1), .val (.int p2), .val (.int p3), .unset, .unset, .unset, .unset, .unset, .unset, .unset, .unset, .unset] [(.ref b5), (.ref b5)]))
  refine own_st (fun _ kQ => XT.iconstV X12.here hx rfl (1 : Int32) (hb hby at_12) (by decide) kQ) ?_
  show own_Go p e below s _ _ _ (T12.setTop (mkF m 13 #[.val (.int p1), .val (.int p2), .val (.int p3), .unset, .unset, .unset, .unset, .unset, .unset, .unset, .unset, .unset] [(.int (1 : Int32)), (.ref b5), (.ref b5)]))
  have O18 : Old Z n0 h12 := (O9.wr W12 g7)
  have F19 : Sta Z h12 "com/example/epoch/epoch/protocol/ApiKey" "FETCH" "Lcom/example/epoch/epoch/protocol/ApiKey;" (.ref a_FETCH) := S_a_FETCH.ext O18.2
  obtain ⟨T20, X20, e20, st20⟩ := getS2 X12 hx hZ hown (host := "") (Or.inl (hw _ (List.mem_of_getElem? (i := 6) rfl))) Via.refl e12 F19 (g := (mkF m 13 #[.val (.int p1), .val (.int p2), .val (.int p3), .unset, .unset, .unset, .unset, .unset, .unset, .unset, .unset, .unset] [(.int (1 : Int32)), (.ref b5), (.ref b5)])) rfl (hb hby at_13)
  refine own_st st20 ?_
  show own_Go p e below s _ _ _ (T20.setTop (mkF m 16 #[.val (.int p1), .val (.int p2), .val (.int p3), .unset, .unset, .unset, .unset, .unset, .unset, .unset, .unset, .unset] [(.ref a_FETCH), (.int (1 : Int32)), (.ref b5), (.ref b5)]))
  obtain ⟨cl21, Ar21, kc21, S21, Nn21, H21, G21⟩ := id F15
  have hin21 : ¬ ((1 : Int32) < 0 ∨ cl21.slots.size ≤ ((1 : Int32) : Int32).toNatClampNeg) := inb_of S21 (by decide)
  have F22 : Exa Z h12 a_FETCH "com/example/epoch/epoch/protocol/ApiKey" := Ex_a_FETCH.ext O18.2
  obtain ⟨T21, h21, X21, e21, W21, st21⟩ := stR X20 hx hZ e20 Ar21 (j := (1 : Int32)) hin21 rfl (Sto.ofV Ar21 kc21 O5 (Ins.self F22)) (g := (mkF m 16 #[.val (.int p1), .val (.int p2), .val (.int p3), .unset, .unset, .unset, .unset, .unset, .unset, .unset, .unset, .unset] [(.ref a_FETCH), (.int (1 : Int32)), (.ref b5), (.ref b5)])) rfl rfl (hb hby at_16)
  refine own_st st21 ?_
  have N23 := Fr.snoc X21 N14 g7
  have F24 : Arv Z h21 b5 k5 (.object "com/example/epoch/epoch/protocol/ApiKey") (17 : Int32) [(.ref a_PRODUCE), (.ref a_FETCH), .null, .null, .null, .null, .null, .null, .null, .null, .null, .null, .null, .null, .null, .null, .null] .null := Arv.set Ar21 kc21 S21 Nn21 H21 G21 rfl W21 1 (by decide) (Nat.le_of_ble_eq_true rfl)
  have lt25 : b5 < h21.size := Nat.lt_of_lt_of_le lt16 (Nat.le_of_eq W21.size.symm)
  have Zs26 : n0 ≤ h21.size := Nat.le_trans Zs17 (Nat.le_of_eq W21.size.symm)
  show own_Go p e below s _ _ _ (T21.setTop (mkF m 17 #[.val (.int p1), .val (.int p2), .val (.int p3), .unset, .unset, .unset, .unset, .unset, .unset, .unset, .unset, .unset] [(.ref b5)]))
  refine own_st (fun _ kQ => XS.dup X21.here hx rfl (hb hby at_17) rfl rfl kQ) ?_
  show own_Go p e below s _ _ _ (T21.setTop (mkF m 18 #[.val (.int p1), .val (.int p2), .val (.int p3), .unset, .unset, .unset, .unset, .unset, .unset, .unset, .unset, .unset] [(.ref b5), (.ref b5)]))
  refine own_st (fun _ kQ => XT.iconstV X21.here hx rfl (2 : Int32) (hb hby at_18) (by decide) kQ) ?_
  show own_Go p e below s _ _ _ (T21.setTop (mkF m 19 #[.val (.int p1), .val (.int p2), .val (.int p3), .unset, .unset, .unset, .unset, .unset, .unset, .unset, .unset, .unset] [(.int (2 : Int32)), (.ref b5), (.ref b5)]))
  have O27 : Old Z n0 h21 := (O18.wr W21 g7)
  have F28 : Sta Z h21 "com/example/epoch/epoch/protocol/ApiKey" "LIST_OFFSETS" "Lcom/example/epoch/epoch/protocol/ApiKey;" (.ref a_LIST_OFFSETS) := S_a_LIST_OFFSETS.ext O27.2
  obtain ⟨T29, X29, e29, st29⟩ := getS2 X21 hx hZ hown (host := "") (Or.inl (hw _ (List.mem_of_getElem? (i := 8) rfl))) Via.refl e21 F28 (g := (mkF m 19 #[.val (.int p1), .val (.int p2), .val (.int p3), .unset, .unset, .unset, .unset, .unset, .unset, .unset, .unset, .unset] [(.int (2 : Int32)), (.ref b5), (.ref b5)])) rfl (hb hby at_19)
  refine own_st st29 ?_
  show own_Go p e below s _ _ _ (T29.setTop (mkF m 22 #[.val (.int p1), .val (.int p2), .val (.int p3), .unset, .unset, .unset, .unset, .unset, .unset, .unset, .unset, .unset] [(.ref a_LIST_OFFSETS), (.int (2 : Int32)), (.ref b5), (.ref b5)]))
  obtain ⟨cl30, Ar30, kc30, S30, Nn30, H30, G30⟩ := id F24
  have hin30 : ¬ ((2 : Int32) < 0 ∨ cl30.slots.size ≤ ((2 : Int32) : Int32).toNatClampNeg) := inb_of S30 (by decide)
  have F31 : Exa Z h21 a_LIST_OFFSETS "com/example/epoch/epoch/protocol/ApiKey" := Ex_a_LIST_OFFSETS.ext O27.2
  obtain ⟨T30, h30, X30, e30, W30, st30⟩ := stR X29 hx hZ e29 Ar30 (j := (2 : Int32)) hin30 rfl (Sto.ofV Ar30 kc30 O5 (Ins.self F31)) (g := (mkF m 22 #[.val (.int p1), .val (.int p2), .val (.int p3), .unset, .unset, .unset, .unset, .unset, .unset, .unset, .unset, .unset] [(.ref a_LIST_OFFSETS), (.int (2 : Int32)), (.ref b5), (.ref b5)])) rfl rfl (hb hby at_22)
  refine own_st st30 ?_
  have N32 := Fr.snoc X30 N23 g7
  have F33 : Arv Z h30 b5 k5 (.object "com/example/epoch/epoch/protocol/ApiKey") (17 : Int32) [(.ref a_PRODUCE), (.ref a_FETCH), (.ref a_LIST_OFFSETS), .null, .null, .null, .null, .null, .null, .null, .null, .null, .null, .null, .null, .null, .null] .null := Arv.set Ar30 kc30 S30 Nn30 H30 G30 rfl W30 2 (by decide) (Nat.le_of_ble_eq_true rfl)
  have lt34 : b5 < h30.size := Nat.lt_of_lt_of_le lt25 (Nat.le_of_eq W30.size.symm)
  have Zs35 : n0 ≤ h30.size := Nat.le_trans Zs26 (Nat.le_of_eq W30.size.symm)
  show own_Go p e below s _ _ _ (T30.setTop (mkF m 23 #[.val (.int p1), .val (.int p2), .val (.int p3), .unset, .unset, .unset, .unset, .unset, .unset, .unset, .unset, .unset] [(.ref b5)]))
  refine own_st (fun _ kQ => XS.dup X30.here hx rfl (hb hby at_23) rfl rfl kQ) ?_
  show own_Go p e below s _ _ _ (T30.setTop (mkF m 24 #[.val (.int p1), .val (.int p2), .val (.int p3), .unset, .unset, .unset, .unset, .unset, .unset, .unset, .unset, .unset] [(.ref b5), (.ref b5)]))
  refine own_st (fun _ kQ => XT.iconstV X30.here hx rfl (3 : Int32) (hb hby at_24) (by decide) kQ) ?_
  show own_Go p e below s _ _ _ (T30.setTop (mkF m 25 #[.val (.int p1), .val (.int p2), .val (.int p3), .unset, .unset, .unset, .unset, .unset, .unset, .unset, .unset, .unset] [(.int (3 : Int32)), (.ref b5), (.ref b5)]))
  have O36 : Old Z n0 h30 := (O27.wr W30 g7)
  have F37 : Sta Z h30 "com/example/epoch/epoch/protocol/ApiKey" "METADATA" "Lcom/example/epoch/epoch/protocol/ApiKey;" (.ref a_METADATA) := S_a_METADATA.ext O36.2
  obtain ⟨T38, X38, e38, st38⟩ := getS2 X30 hx hZ hown (host := "") (Or.inl (hw _ (List.mem_of_getElem? (i := 10) rfl))) Via.refl e30 F37 (g := (mkF m 25 #[.val (.int p1), .val (.int p2), .val (.int p3), .unset, .unset, .unset, .unset, .unset, .unset, .unset, .unset, .unset] [(.int (3 : Int32)), (.ref b5), (.ref b5)])) rfl (hb hby at_25)
  refine own_st st38 ?_
  show own_Go p e below s _ _ _ (T38.setTop (mkF m 28 #[.val (.int p1), .val (.int p2), .val (.int p3), .unset, .unset, .unset, .unset, .unset, .unset, .unset, .unset, .unset] [(.ref a_METADATA), (.int (3 : Int32)), (.ref b5), (.ref b5)]))
  obtain ⟨cl39, Ar39, kc39, S39, Nn39, H39, G39⟩ := id F33
  have hin39 : ¬ ((3 : Int32) < 0 ∨ cl39.slots.size ≤ ((3 : Int32) : Int32).toNatClampNeg) := inb_of S39 (by decide)
  have F40 : Exa Z h30 a_METADATA "com/example/epoch/epoch/protocol/ApiKey" := Ex_a_METADATA.ext O36.2
  obtain ⟨T39, h39, X39, e39, W39, st39⟩ := stR X38 hx hZ e38 Ar39 (j := (3 : Int32)) hin39 rfl (Sto.ofV Ar39 kc39 O5 (Ins.self F40)) (g := (mkF m 28 #[.val (.int p1), .val (.int p2), .val (.int p3), .unset, .unset, .unset, .unset, .unset, .unset, .unset, .unset, .unset] [(.ref a_METADATA), (.int (3 : Int32)), (.ref b5), (.ref b5)])) rfl rfl (hb hby at_28)
  refine own_st st39 ?_
  have N41 := Fr.snoc X39 N32 g7
  have F42 : Arv Z h39 b5 k5 (.object "com/example/epoch/epoch/protocol/ApiKey") (17 : Int32) [(.ref a_PRODUCE), (.ref a_FETCH), (.ref a_LIST_OFFSETS), (.ref a_METADATA), .null, .null, .null, .null, .null, .null, .null, .null, .null, .null, .null, .null, .null] .null := Arv.set Ar39 kc39 S39 Nn39 H39 G39 rfl W39 3 (by decide) (Nat.le_of_ble_eq_true rfl)
  have lt43 : b5 < h39.size := Nat.lt_of_lt_of_le lt34 (Nat.le_of_eq W39.size.symm)
  have Zs44 : n0 ≤ h39.size := Nat.le_trans Zs35 (Nat.le_of_eq W39.size.symm)
  obtain ⟨Lp45, Xp45, Np45⟩ : ∃ L, Stand p l e room_1 s m #[(.int p1), (.int p2), (.int p3)] below meth c T39 L 1 17 ∧ Fr n0 L := ⟨_, X39, N41⟩
  show own_Go p e below s _ _ _ (T39.setTop (mkF m 29 #[.val (.int p1), .val (.int p2), .val (.int p3), .unset, .unset, .unset, .unset, .unset, .unset, .unset, .unset, .unset] [(.ref b5)]))
  refine own_st (fun _ kQ => XS.dup Xp45.here hx rfl (hb hby at_29) rfl rfl kQ) ?_
  show own_Go p e below s _ _ _ (T39.setTop (mkF m 30 #[.val (.int p1), .val (.int p2), .val (.int p3), .unset, .unset, .unset, .unset, .unset, .unset, .unset, .unset, .unset] [(.ref b5), (.ref b5)]))
  refine own_st (fun _ kQ => XT.iconstV Xp45.here hx rfl (4 : Int32) (hb hby at_30) (by decide) kQ) ?_
  show own_Go p e below s _ _ _ (T39.setTop (mkF m 31 #[.val (.int p1), .val (.int p2), .val (.int p3), .unset, .unset, .unset, .unset, .unset, .unset, .unset, .unset, .unset] [(.int (4 : Int32)), (.ref b5), (.ref b5)]))
  have O46 : Old Z n0 h39 := (O36.wr W39 g7)
  have F47 : Sta Z h39 "com/example/epoch/epoch/protocol/ApiKey" "OFFSET_COMMIT" "Lcom/example/epoch/epoch/protocol/ApiKey;" (.ref a_OFFSET_COMMIT) := S_a_OFFSET_COMMIT.ext O46.2
  obtain ⟨T48, X48, e48, st48⟩ := getS2 Xp45 hx hZ hown (host := "") (Or.inl (hw _ (List.mem_of_getElem? (i := 12) rfl))) Via.refl e39 F47 (g := (mkF m 31 #[.val (.int p1), .val (.int p2), .val (.int p3), .unset, .unset, .unset, .unset, .unset, .unset, .unset, .unset, .unset] [(.int (4 : Int32)), (.ref b5), (.ref b5)])) rfl (hb hby at_31)
  refine own_st st48 ?_
  show own_Go p e below s _ _ _ (T48.setTop (mkF m 34 #[.val (.int p1), .val (.int p2), .val (.int p3), .unset, .unset, .unset, .unset, .unset, .unset, .unset, .unset, .unset] [(.ref a_OFFSET_COMMIT), (.int (4 : Int32)), (.ref b5), (.ref b5)]))
  obtain ⟨cl49, Ar49, kc49, S49, Nn49, H49, G49⟩ := id F42
  have hin49 : ¬ ((4 : Int32) < 0 ∨ cl49.slots.size ≤ ((4 : Int32) : Int32).toNatClampNeg) := inb_of S49 (by decide)
  have F50 : Exa Z h39 a_OFFSET_COMMIT "com/example/epoch/epoch/protocol/ApiKey" := Ex_a_OFFSET_COMMIT.ext O46.2
  obtain ⟨T49, h49, X49, e49, W49, st49⟩ := stR X48 hx hZ e48 Ar49 (j := (4 : Int32)) hin49 rfl (Sto.ofV Ar49 kc49 O5 (Ins.self F50)) (g := (mkF m 34 #[.val (.int p1), .val (.int p2), .val (.int p3), .unset, .unset, .unset, .unset, .unset, .unset, .unset, .unset, .unset] [(.ref a_OFFSET_COMMIT), (.int (4 : Int32)), (.ref b5), (.ref b5)])) rfl rfl (hb hby at_34)
  refine own_st st49 ?_
  have N51 := Fr.snoc X49 Np45 g7
  have F52 : Arv Z h49 b5 k5 (.object "com/example/epoch/epoch/protocol/ApiKey") (17 : Int32) [(.ref a_PRODUCE), (.ref a_FETCH), (.ref a_LIST_OFFSETS), (.ref a_METADATA), (.ref a_OFFSET_COMMIT), .null, .null, .null, .null, .null, .null, .null, .null, .null, .null, .null, .null] .null := Arv.set Ar49 kc49 S49 Nn49 H49 G49 rfl W49 4 (by decide) (Nat.le_of_ble_eq_true rfl)
  have lt53 : b5 < h49.size := Nat.lt_of_lt_of_le lt43 (Nat.le_of_eq W49.size.symm)
  have Zs54 : n0 ≤ h49.size := Nat.le_trans Zs44 (Nat.le_of_eq W49.size.symm)
  show own_Go p e below s _ _ _ (T49.setTop (mkF m 35 #[.val (.int p1), .val (.int p2), .val (.int p3), .unset, .unset, .unset, .unset, .unset, .unset, .unset, .unset, .unset] [(.ref b5)]))
  refine own_st (fun _ kQ => XS.dup X49.here hx rfl (hb hby at_35) rfl rfl kQ) ?_
  show own_Go p e below s _ _ _ (T49.setTop (mkF m 36 #[.val (.int p1), .val (.int p2), .val (.int p3), .unset, .unset, .unset, .unset, .unset, .unset, .unset, .unset, .unset] [(.ref b5), (.ref b5)]))
  refine own_st (fun _ kQ => XT.iconstV X49.here hx rfl (5 : Int32) (hb hby at_36) (by decide) kQ) ?_
  show own_Go p e below s _ _ _ (T49.setTop (mkF m 37 #[.val (.int p1), .val (.int p2), .val (.int p3), .unset, .unset, .unset, .unset, .unset, .unset, .unset, .unset, .unset] [(.int (5 : Int32)), (.ref b5), (.ref b5)]))
  have O55 : Old Z n0 h49 := (O46.wr W49 g7)
  have F56 : Sta Z h49 "com/example/epoch/epoch/protocol/ApiKey" "OFFSET_FETCH" "Lcom/example/epoch/epoch/protocol/ApiKey;" (.ref a_OFFSET_FETCH) := S_a_OFFSET_FETCH.ext O55.2
  obtain ⟨T57, X57, e57, st57⟩ := getS2 X49 hx hZ hown (host := "") (Or.inl (hw _ (List.mem_of_getElem? (i := 14) rfl))) Via.refl e49 F56 (g := (mkF m 37 #[.val (.int p1), .val (.int p2), .val (.int p3), .unset, .unset, .unset, .unset, .unset, .unset, .unset, .unset, .unset] [(.int (5 : Int32)), (.ref b5), (.ref b5)])) rfl (hb hby at_37)
  refine own_st st57 ?_
  show own_Go p e below s _ _ _ (T57.setTop (mkF m 40 #[.val (.int p1), .val (.int p2), .val (.int p3), .unset, .unset, .unset, .unset, .unset, .unset, .unset, .unset, .unset] [(.ref a_OFFSET_FETCH), (.int (5 : Int32)), (.ref b5), (.ref b5)]))
  obtain ⟨cl58, Ar58, kc58, S58, Nn58, H58, G58⟩ := id F52
  have hin58 : ¬ ((5 : Int32) < 0 ∨ cl58.slots.size ≤ ((5 : Int32) : Int32).toNatClampNeg) := inb_of S58 (by decide)
  have F59 : Exa Z h49 a_OFFSET_FETCH "com/example/epoch/epoch/protocol/ApiKey" := Ex_a_OFFSET_FETCH.ext O55.2
  obtain ⟨T58, h58, X58, e58, W58, st58⟩ := stR X57 hx hZ e57 Ar58 (j := (5 : Int32)) hin58 rfl (Sto.ofV Ar58 kc58 O5 (Ins.self F59)) (g := (mkF m 40 #[.val (.int p1), .val (.int p2), .val (.int p3), .unset, .unset, .unset, .unset, .unset, .unset, .unset, .unset, .unset] [(.ref a_OFFSET_FETCH), (.int (5 : Int32)), (.ref b5), (.ref b5)])) rfl rfl (hb hby at_40)
  refine own_st st58 ?_
  have N60 := Fr.snoc X58 N51 g7
  have F61 : Arv Z h58 b5 k5 (.object "com/example/epoch/epoch/protocol/ApiKey") (17 : Int32) [(.ref a_PRODUCE), (.ref a_FETCH), (.ref a_LIST_OFFSETS), (.ref a_METADATA), (.ref a_OFFSET_COMMIT), (.ref a_OFFSET_FETCH), .null, .null, .null, .null, .null, .null, .null, .null, .null, .null, .null] .null := Arv.set Ar58 kc58 S58 Nn58 H58 G58 rfl W58 5 (by decide) (Nat.le_of_ble_eq_true rfl)
  have lt62 : b5 < h58.size := Nat.lt_of_lt_of_le lt53 (Nat.le_of_eq W58.size.symm)
  have Zs63 : n0 ≤ h58.size := Nat.le_trans Zs54 (Nat.le_of_eq W58.size.symm)
  show own_Go p e below s _ _ _ (T58.setTop (mkF m 41 #[.val (.int p1), .val (.int p2), .val (.int p3), .unset, .unset, .unset, .unset, .unset, .unset, .unset, .unset, .unset] [(.ref b5)]))
  refine own_st (fun _ kQ => XS.dup X58.here hx rfl (hb hby at_41) rfl rfl kQ) ?_
  show own_Go p e below s _ _ _ (T58.setTop (mkF m 42 #[.val (.int p1), .val (.int p2), .val (.int p3), .unset, .unset, .unset, .unset, .unset, .unset, .unset, .unset, .unset] [(.ref b5), (.ref b5)]))
  refine own_st (fun _ kQ => XT.bipushV X58.here hx rfl (6 : Int32) (hb hby at_42) (by decide) kQ) ?_
  show own_Go p e below s _ _ _ (T58.setTop (mkF m 44 #[.val (.int p1), .val (.int p2), .val (.int p3), .unset, .unset, .unset, .unset, .unset, .unset, .unset, .unset, .unset] [(.int (6 : Int32)), (.ref b5), (.ref b5)]))
  have O64 : Old Z n0 h58 := (O55.wr W58 g7)
  have F65 : Sta Z h58 "com/example/epoch/epoch/protocol/ApiKey" "FIND_COORDINATOR" "Lcom/example/epoch/epoch/protocol/ApiKey;" (.ref a_FIND_COORDINATOR) := S_a_FIND_COORDINATOR.ext O64.2
  obtain ⟨T66, X66, e66, st66⟩ := getS2 X58 hx hZ hown (host := "") (Or.inl (hw _ (List.mem_of_getElem? (i := 16) rfl))) Via.refl e58 F65 (g := (mkF m 44 #[.val (.int p1), .val (.int p2), .val (.int p3), .unset, .unset, .unset, .unset, .unset, .unset, .unset, .unset, .unset] [(.int (6 : Int32)), (.ref b5), (.ref b5)])) rfl (hb hby at_44)
  refine own_st st66 ?_
  show own_Go p e below s _ _ _ (T66.setTop (mkF m 47 #[.val (.int p1), .val (.int p2), .val (.int p3), .unset, .unset, .unset, .unset, .unset, .unset, .unset, .unset, .unset] [(.ref a_FIND_COORDINATOR), (.int (6 : Int32)), (.ref b5), (.ref b5)]))
  obtain ⟨cl67, Ar67, kc67, S67, Nn67, H67, G67⟩ := id F61
  have hin67 : ¬ ((6 : Int32) < 0 ∨ cl67.slots.size ≤ ((6 : Int32) : Int32).toNatClampNeg) := inb_of S67 (by decide)
  have F68 : Exa Z h58 a_FIND_COORDINATOR "com/example/epoch/epoch/protocol/ApiKey" := Ex_a_FIND_COORDINATOR.ext O64.2
  obtain ⟨T67, h67, X67, e67, W67, st67⟩ := stR X66 hx hZ e66 Ar67 (j := (6 : Int32)) hin67 rfl (Sto.ofV Ar67 kc67 O5 (Ins.self F68)) (g := (mkF m 47 #[.val (.int p1), .val (.int p2), .val (.int p3), .unset, .unset, .unset, .unset, .unset, .unset, .unset, .unset, .unset] [(.ref a_FIND_COORDINATOR), (.int (6 : Int32)), (.ref b5), (.ref b5)])) rfl rfl (hb hby at_47)
  refine own_st st67 ?_
  have N69 := Fr.snoc X67 N60 g7
  have F70 : Arv Z h67 b5 k5 (.object "com/example/epoch/epoch/protocol/ApiKey") (17 : Int32) [(.ref a_PRODUCE), (.ref a_FETCH), (.ref a_LIST_OFFSETS), (.ref a_METADATA), (.ref a_OFFSET_COMMIT), (.ref a_OFFSET_FETCH), (.ref a_FIND_COORDINATOR), .null, .null, .null, .null, .null, .null, .null, .null, .null, .null] .null := Arv.set Ar67 kc67 S67 Nn67 H67 G67 rfl W67 6 (by decide) (Nat.le_of_ble_eq_true rfl)
  have lt71 : b5 < h67.size := Nat.lt_of_lt_of_le lt62 (Nat.le_of_eq W67.size.symm)
  have Zs72 : n0 ≤ h67.size := Nat.le_trans Zs63 (Nat.le_of_eq W67.size.symm)
  show own_Go p e below s _ _ _ (T67.setTop (mkF m 48 #[.val (.int p1), .val (.int p2), .val (.int p3), .unset, .unset, .unset, .unset, .unset, .unset, .unset, .unset, .unset] [(.ref b5)]))
  refine own_st (fun _ kQ => XS.dup X67.here hx rfl (hb hby at_48) rfl rfl kQ) ?_
  show own_Go p e below s _ _ _ (T67.setTop (mkF m 49 #[.val (.int p1), .val (.int p2), .val (.int p3), .unset, .unset, .unset, .unset, .unset, .unset, .unset, .unset, .unset] [(.ref b5), (.ref b5)]))
  refine own_st (fun _ kQ => XT.bipushV X67.here hx rfl (7 : Int32) (hb hby at_49) (by decide) kQ) ?_
  show own_Go p e below s _ _ _ (T67.setTop (mkF m 51 #[.val (.int p1), .val (.int p2), .val (.int p3), .unset, .unset, .unset, .unset, .unset, .unset, .unset, .unset, .unset] [(.int (7 : Int32)), (.ref b5), (.ref b5)]))
  have O73 : Old Z n0 h67 := (O64.wr W67 g7)
  have F74 : Sta Z h67 "com/example/epoch/epoch/protocol/ApiKey" "JOIN_GROUP" "Lcom/example/epoch/epoch/protocol/ApiKey;" (.ref a_JOIN_GROUP) := S_a_JOIN_GROUP.ext O73.2
  obtain ⟨T75, X75, e75, st75⟩ := getS2 X67 hx hZ hown (host := "") (Or.inl (hw _ (List.mem_of_getElem? (i := 18) rfl))) Via.refl e67 F74 (g := (mkF m 51 #[.val (.int p1), .val (.int p2), .val (.int p3), .unset, .unset, .unset, .unset, .unset, .unset, .unset, .unset, .unset] [(.int (7 : Int32)), (.ref b5), (.ref b5)])) rfl (hb hby at_51)
  refine own_st st75 ?_
  show own_Go p e below s _ _ _ (T75.setTop (mkF m 54 #[.val (.int p1), .val (.int p2), .val (.int p3), .unset, .unset, .unset, .unset, .unset, .unset, .unset, .unset, .unset] [(.ref a_JOIN_GROUP), (.int (7 : Int32)), (.ref b5), (.ref b5)]))
  obtain ⟨cl76, Ar76, kc76, S76, Nn76, H76, G76⟩ := id F70
  have hin76 : ¬ ((7 : Int32) < 0 ∨ cl76.slots.size ≤ ((7 : Int32) : Int32).toNatClampNeg) := inb_of S76 (by decide)
  have F77 : Exa Z h67 a_JOIN_GROUP "com/example/epoch/epoch/protocol/ApiKey" := Ex_a_JOIN_GROUP.ext O73.2
  obtain ⟨T76, h76, X76, e76, W76, st76⟩ := stR X75 hx hZ e75 Ar76 (j := (7 : Int32)) hin76 rfl (Sto.ofV Ar76 kc76 O5 (Ins.self F77)) (g := (mkF m 54 #[.val (.int p1), .val (.int p2), .val (.int p3), .unset, .unset, .unset, .unset, .unset, .unset, .unset, .unset, .unset] [(.ref a_JOIN_GROUP), (.int (7 : Int32)), (.ref b5), (.ref b5)])) rfl rfl (hb hby at_54)
  refine own_st st76 ?_
  have N78 := Fr.snoc X76 N69 g7
  have F79 : Arv Z h76 b5 k5 (.object "com/example/epoch/epoch/protocol/ApiKey") (17 : Int32) [(.ref a_PRODUCE), (.ref a_FETCH), (.ref a_LIST_OFFSETS), (.ref a_METADATA), (.ref a_OFFSET_COMMIT), (.ref a_OFFSET_FETCH), (.ref a_FIND_COORDINATOR), (.ref a_JOIN_GROUP), .null, .null, .null, .null, .null, .null, .null, .null, .null] .null := Arv.set Ar76 kc76 S76 Nn76 H76 G76 rfl W76 7 (by decide) (Nat.le_of_ble_eq_true rfl)
  have lt80 : b5 < h76.size := Nat.lt_of_lt_of_le lt71 (Nat.le_of_eq W76.size.symm)
  have Zs81 : n0 ≤ h76.size := Nat.le_trans Zs72 (Nat.le_of_eq W76.size.symm)
  obtain ⟨Lp82, Xp82, Np82⟩ : ∃ L, Stand p l e room_1 s m #[(.int p1), (.int p2), (.int p3)] below meth c T76 L 1 17 ∧ Fr n0 L := ⟨_, X76, N78⟩
  show own_Go p e below s _ _ _ (T76.setTop (mkF m 55 #[.val (.int p1), .val (.int p2), .val (.int p3), .unset, .unset, .unset, .unset, .unset, .unset, .unset, .unset, .unset] [(.ref b5)]))
  refine own_st (fun _ kQ => XS.dup Xp82.here hx rfl (hb hby at_55) rfl rfl kQ) ?_
  show own_Go p e below s _ _ _ (T76.setTop (mkF m 56 #[.val (.int p1), .val (.int p2), .val (.int p3), .unset, .unset, .unset, .unset, .unset, .unset, .unset, .unset, .unset] [(.ref b5), (.ref b5)]))
  refine own_st (fun _ kQ => XT.bipushV Xp82.here hx rfl (8 : Int32) (hb hby at_56) (by decide) kQ) ?_
  show own_Go p e below s _ _ _ (T76.setTop (mkF m 58 #[.val (.int p1), .val (.int p2), .val (.int p3), .unset, .unset, .unset, .unset, .unset, .unset, .unset, .unset, .unset] [(.int (8 : Int32)), (.ref b5), (.ref b5)]))
  have O83 : Old Z n0 h76 := (O73.wr W76 g7)
  have F84 : Sta Z h76 "com/example/epoch/epoch/protocol/ApiKey" "HEARTBEAT" "Lcom/example/epoch/epoch/protocol/ApiKey;" (.ref a_HEARTBEAT) := S_a_HEARTBEAT.ext O83.2
  obtain ⟨T85, X85, e85, st85⟩ := getS2 Xp82 hx hZ hown (host := "") (Or.inl (hw _ (List.mem_of_getElem? (i := 20) rfl))) Via.refl e76 F84 (g := (mkF m 58 #[.val (.int p1), .val (.int p2), .val (.int p3), .unset, .unset, .unset, .unset, .unset, .unset, .unset, .unset, .unset] [(.int (8 : Int32)), (.ref b5), (.ref b5)])) rfl (hb hby at_58)
  refine own_st st85 ?_
  show own_Go p e below s _ _ _ (T85.setTop (mkF m 61 #[.val (.int p1), .val (.int p2), .val (.int p3), .unset, .unset, .unset, .unset, .unset, .unset, .unset, .unset, .unset] [(.ref a_HEARTBEAT), (.int (8 : Int32)), (.ref b5), (.ref b5)]))
  obtain ⟨cl86, Ar86, kc86, S86, Nn86, H86, G86⟩ := id F79
  have hin86 : ¬ ((8 : Int32) < 0 ∨ cl86.slots.size ≤ ((8 : Int32) : Int32).toNatClampNeg) := inb_of S86 (by decide)
  have F87 : Exa Z h76 a_HEARTBEAT "com/example/epoch/epoch/protocol/ApiKey" := Ex_a_HEARTBEAT.ext O83.2
  obtain ⟨T86, h86, X86, e86, W86, st86⟩ := stR X85 hx hZ e85 Ar86 (j := (8 : Int32)) hin86 rfl (Sto.ofV Ar86 kc86 O5 (Ins.self F87)) (g := (mkF m 61 #[.val (.int p1), .val (.int p2), .val (.int p3), .unset, .unset, .unset, .unset, .unset, .unset, .unset, .unset, .unset] [(.ref a_HEARTBEAT), (.int (8 : Int32)), (.ref b5), (.ref b5)])) rfl rfl (hb hby at_61)
  refine own_st st86 ?_
  have N88 := Fr.snoc X86 Np82 g7
  have F89 : Arv Z h86 b5 k5 (.object "com/example/epoch/epoch/protocol/ApiKey") (17 : Int32) [(.ref a_PRODUCE), (.ref a_FETCH), (.ref a_LIST_OFFSETS), (.ref a_METADATA), (.ref a_OFFSET_COMMIT), (.ref a_OFFSET_FETCH), (.ref a_FIND_COORDINATOR), (.ref a_JOIN_GROUP), (.ref a_HEARTBEAT), .null, .null, .null, .null, .null, .null, .null, .null] .null := Arv.set Ar86 kc86 S86 Nn86 H86 G86 rfl W86 8 (by decide) (Nat.le_of_ble_eq_true rfl)
  have lt90 : b5 < h86.size := Nat.lt_of_lt_of_le lt80 (Nat.le_of_eq W86.size.symm)
  have Zs91 : n0 ≤ h86.size := Nat.le_trans Zs81 (Nat.le_of_eq W86.size.symm)
  show own_Go p e below s _ _ _ (T86.setTop (mkF m 62 #[.val (.int p1), .val (.int p2), .val (.int p3), .unset, .unset, .unset, .unset, .unset, .unset, .unset, .unset, .unset] [(.ref b5)]))
  refine own_st (fun _ kQ => XS.dup X86.here hx rfl (hb hby at_62) rfl rfl kQ) ?_
  show own_Go p e below s _ _ _ (T86.setTop (mkF m 63 #[.val (.int p1), .val (.int p2), .val (.int p3), .unset, .unset, .unset, .unset, .unset, .unset, .unset, .unset, .unset] [(.ref b5), (.ref b5)]))
  refine own_st (fun _ kQ => XT.bipushV X86.here hx rfl (9 : Int32) (hb hby at_63) (by decide) kQ) ?_
  show own_Go p e below s _ _ _ (T86.setTop (mkF m 65 #[.val (.int p1), .val (.int p2), .val (.int p3), .unset, .unset, .unset, .unset, .unset, .unset, .unset, .unset, .unset] [(.int (9 : Int32)), (.ref b5), (.ref b5)]))
  have O92 : Old Z n0 h86 := (O83.wr W86 g7)
  have F93 : Sta Z h86 "com/example/epoch/epoch/protocol/ApiKey" "LEAVE_GROUP" "Lcom/example/epoch/epoch/protocol/ApiKey;" (.ref a_LEAVE_GROUP) := S_a_LEAVE_GROUP.ext O92.2
  obtain ⟨T94, X94, e94, st94⟩ := getS2 X86 hx hZ hown (host := "") (Or.inl (hw _ (List.mem_of_getElem? (i := 22) rfl))) Via.refl e86 F93 (g := (mkF m 65 #[.val (.int p1), .val (.int p2), .val (.int p3), .unset, .unset, .unset, .unset, .unset, .unset, .unset, .unset, .unset] [(.int (9 : Int32)), (.ref b5), (.ref b5)])) rfl (hb hby at_65)
  refine own_st st94 ?_
  show own_Go p e below s _ _ _ (T94.setTop (mkF m 68 #[.val (.int p1), .val (.int p2), .val (.int p3), .unset, .unset, .unset, .unset, .unset, .unset, .unset, .unset, .unset] [(.ref a_LEAVE_GROUP), (.int (9 : Int32)), (.ref b5), (.ref b5)]))
  obtain ⟨cl95, Ar95, kc95, S95, Nn95, H95, G95⟩ := id F89
  have hin95 : ¬ ((9 : Int32) < 0 ∨ cl95.slots.size ≤ ((9 : Int32) : Int32).toNatClampNeg) := inb_of S95 (by decide)
  have F96 : Exa Z h86 a_LEAVE_GROUP "com/example/epoch/epoch/protocol/ApiKey" := Ex_a_LEAVE_GROUP.ext O92.2
  obtain ⟨T95, h95, X95, e95, W95, st95⟩ := stR X94 hx hZ e94 Ar95 (j := (9 : Int32)) hin95 rfl (Sto.ofV Ar95 kc95 O5 (Ins.self F96)) (g := (mkF m 68 #[.val (.int p1), .val (.int p2), .val (.int p3), .unset, .unset, .unset, .unset, .unset, .unset, .unset, .unset, .unset] [(.ref a_LEAVE_GROUP), (.int (9 : Int32)), (.ref b5), (.ref b5)])) rfl rfl (hb hby at_68)
  refine own_st st95 ?_
  have N97 := Fr.snoc X95 N88 g7
  have F98 : Arv Z h95 b5 k5 (.object "com/example/epoch/epoch/protocol/ApiKey") (17 : Int32) [(.ref a_PRODUCE), (.ref a_FETCH), (.ref a_LIST_OFFSETS), (.ref a_METADATA), (.ref a_OFFSET_COMMIT), (.ref a_OFFSET_FETCH), (.ref a_FIND_COORDINATOR), (.ref a_JOIN_GROUP), (.ref a_HEARTBEAT), (.ref a_LEAVE_GROUP), .null, .null, .null, .null, .null, .null, .null] .null := Arv.set Ar95 kc95 S95 Nn95 H95 G95 rfl W95 9 (by decide) (Nat.le_of_ble_eq_true rfl)
  have lt99 : b5 < h95.size := Nat.lt_of_lt_of_le lt90 (Nat.le_of_eq W95.size.symm)
  have Zs100 : n0 ≤ h95.size := Nat.le_trans Zs91 (Nat.le_of_eq W95.size.symm)
  show own_Go p e below s _ _ _ (T95.setTop (mkF m 69 #[.val (.int p1), .val (.int p2), .val (.int p3), .unset, .unset, .unset, .unset, .unset, .unset, .unset, .unset, .unset] [(.ref b5)]))
  refine own_st (fun _ kQ => XS.dup X95.here hx rfl (hb hby at_69) rfl rfl kQ) ?_
  show own_Go p e below s _ _ _ (T95.setTop (mkF m 70 #[.val (.int p1), .val (.int p2), .val (.int p3), .unset, .unset, .unset, .unset, .unset, .unset, .unset, .unset, .unset] [(.ref b5), (.ref b5)]))
  refine own_st (fun _ kQ => XT.bipushV X95.here hx rfl (10 : Int32) (hb hby at_70) (by decide) kQ) ?_
  show own_Go p e below s _ _ _ (T95.setTop (mkF m 72 #[.val (.int p1), .val (.int p2), .val (.int p3), .unset, .unset, .unset, .unset, .unset, .unset, .unset, .unset, .unset] [(.int (10 : Int32)), (.ref b5), (.ref b5)]))
  have O101 : Old Z n0 h95 := (O92.wr W95 g7)
  have F102 : Sta Z h95 "com/example/epoch/epoch/protocol/ApiKey" "SYNC_GROUP" "Lcom/example/epoch/epoch/protocol/ApiKey;" (.ref a_SYNC_GROUP) := S_a_SYNC_GROUP.ext O101.2
  obtain ⟨T103, X103, e103, st103⟩ := getS2 X95 hx hZ hown (host := "") (Or.inl (hw _ (List.mem_of_getElem? (i := 24) rfl))) Via.refl e95 F102 (g := (mkF m 72 #[.val (.int p1), .val (.int p2), .val (.int p3), .unset, .unset, .unset, .unset, .unset, .unset, .unset, .unset, .unset] [(.int (10 : Int32)), (.ref b5), (.ref b5)])) rfl (hb hby at_72)
  refine own_st st103 ?_
  show own_Go p e below s _ _ _ (T103.setTop (mkF m 75 #[.val (.int p1), .val (.int p2), .val (.int p3), .unset, .unset, .unset, .unset, .unset, .unset, .unset, .unset, .unset] [(.ref a_SYNC_GROUP), (.int (10 : Int32)), (.ref b5), (.ref b5)]))
  obtain ⟨cl104, Ar104, kc104, S104, Nn104, H104, G104⟩ := id F98
  have hin104 : ¬ ((10 : Int32) < 0 ∨ cl104.slots.size ≤ ((10 : Int32) : Int32).toNatClampNeg) := inb_of S104 (by decide)
  have F105 : Exa Z h95 a_SYNC_GROUP "com/example/epoch/epoch/protocol/ApiKey" := Ex_a_SYNC_GROUP.ext O101.2
  obtain ⟨T104, h104, X104, e104, W104, st104⟩ := stR X103 hx hZ e103 Ar104 (j := (10 : Int32)) hin104 rfl (Sto.ofV Ar104 kc104 O5 (Ins.self F105)) (g := (mkF m 75 #[.val (.int p1), .val (.int p2), .val (.int p3), .unset, .unset, .unset, .unset, .unset, .unset, .unset, .unset, .unset] [(.ref a_SYNC_GROUP), (.int (10 : Int32)), (.ref b5), (.ref b5)])) rfl rfl (hb hby at_75)
  refine own_st st104 ?_
  have N106 := Fr.snoc X104 N97 g7
  have F107 : Arv Z h104 b5 k5 (.object "com/example/epoch/epoch/protocol/ApiKey") (17 : Int32) [(.ref a_PRODUCE), (.ref a_FETCH), (.ref a_LIST_OFFSETS), (.ref a_METADATA), (.ref a_OFFSET_COMMIT), (.ref a_OFFSET_FETCH), (.ref a_FIND_COORDINATOR), (.ref a_JOIN_GROUP), (.ref a_HEARTBEAT), (.ref a_LEAVE_GROUP), (.ref a_SYNC_GROUP), .null, .null, .null, .null, .null, .null] .null := Arv.set Ar104 kc104 S104 Nn104 H104 G104 rfl W104 10 (by decide) (Nat.le_of_ble_eq_true rfl)
  have lt108 : b5 < h104.size := Nat.lt_of_lt_of_le lt99 (Nat.le_of_eq W104.size.symm)
  have Zs109 : n0 ≤ h104.size := Nat.le_trans Zs100 (Nat.le_of_eq W104.size.symm)
  show own_Go p e below s _ _ _ (T104.setTop (mkF m 76 #[.val (.int p1), .val (.int p2), .val (.int p3), .unset, .unset, .unset, .unset, .unset, .unset, .unset, .unset, .unset] [(.ref b5)]))
  refine own_st (fun _ kQ => XS.dup X104.here hx rfl (hb hby at_76) rfl rfl kQ) ?_
  show own_Go p e below s _ _ _ (T104.setTop (mkF m 77 #[.val (.int p1), .val (.int p2), .val (.int p3), .unset, .unset, .unset, .unset, .unset, .unset, .unset, .unset, .unset] [(.ref b5), (.ref b5)]))
  refine own_st (fun _ kQ => XT.bipushV X104.here hx rfl (11 : Int32) (hb hby at_77) (by decide) kQ) ?_
  show own_Go p e below s _ _ _ (T104.setTop (mkF m 79 #[.val (.int p1), .val (.int p2), .val (.int p3), .unset, .unset, .unset, .unset, .unset, .unset, .unset, .unset, .unset] [(.int (11 : Int32)), (.ref b5), (.ref b5)]))
  have O110 : Old Z n0 h104 := (O101.wr W104 g7)
  have F111 : Sta Z h104 "com/example/epoch/epoch/protocol/ApiKey" "API_VERSIONS" "Lcom/example/epoch/epoch/protocol/ApiKey;" (.ref a_API_VERSIONS) := S_a_API_VERSIONS.ext O110.2
  obtain ⟨T112, X112, e112, st112⟩ := getS2 X104 hx hZ hown (host := "") (Or.inl (hw _ (List.mem_of_getElem? (i := 26) rfl))) Via.refl e104 F111 (g := (mkF m 79 #[.val (.int p1), .val (.int p2), .val (.int p3), .unset, .unset, .unset, .unset, .unset, .unset, .unset, .unset, .unset] [(.int (11 : Int32)), (.ref b5), (.ref b5)])) rfl (hb hby at_79)
  refine own_st st112 ?_
  show own_Go p e below s _ _ _ (T112.setTop (mkF m 82 #[.val (.int p1), .val (.int p2), .val (.int p3), .unset, .unset, .unset, .unset, .unset, .unset, .unset, .unset, .unset] [(.ref a_API_VERSIONS), (.int (11 : Int32)), (.ref b5), (.ref b5)]))
  obtain ⟨cl113, Ar113, kc113, S113, Nn113, H113, G113⟩ := id F107
  have hin113 : ¬ ((11 : Int32) < 0 ∨ cl113.slots.size ≤ ((11 : Int32) : Int32).toNatClampNeg) := inb_of S113 (by decide)
  have F114 : Exa Z h104 a_API_VERSIONS "com/example/epoch/epoch/protocol/ApiKey" := Ex_a_API_VERSIONS.ext O110.2
  obtain ⟨T113, h113, X113, e113, W113, st113⟩ := stR X112 hx hZ e112 Ar113 (j := (11 : Int32)) hin113 rfl (Sto.ofV Ar113 kc113 O5 (Ins.self F114)) (g := (mkF m 82 #[.val (.int p1), .val (.int p2), .val (.int p3), .unset, .unset, .unset, .unset, .unset, .unset, .unset, .unset, .unset] [(.ref a_API_VERSIONS), (.int (11 : Int32)), (.ref b5), (.ref b5)])) rfl rfl (hb hby at_82)
  refine own_st st113 ?_
  have N115 := Fr.snoc X113 N106 g7
  have F116 : Arv Z h113 b5 k5 (.object "com/example/epoch/epoch/protocol/ApiKey") (17 : Int32) [(.ref a_PRODUCE), (.ref a_FETCH), (.ref a_LIST_OFFSETS), (.ref a_METADATA), (.ref a_OFFSET_COMMIT), (.ref a_OFFSET_FETCH), (.ref a_FIND_COORDINATOR), (.ref a_JOIN_GROUP), (.ref a_HEARTBEAT), (.ref a_LEAVE_GROUP), (.ref a_SYNC_GROUP), (.ref a_API_VERSIONS), .null, .null, .null, .null, .null] .null := Arv.set Ar113 kc113 S113 Nn113 H113 G113 rfl W113 11 (by decide) (Nat.le_of_ble_eq_true rfl)
  have lt117 : b5 < h113.size := Nat.lt_of_lt_of_le lt108 (Nat.le_of_eq W113.size.symm)
  have Zs118 : n0 ≤ h113.size := Nat.le_trans Zs109 (Nat.le_of_eq W113.size.symm)
  obtain ⟨Lp119, Xp119, Np119⟩ : ∃ L, Stand p l e room_1 s m #[(.int p1), (.int p2), (.int p3)] below meth c T113 L 1 17 ∧ Fr n0 L := ⟨_, X113, N115⟩
  show own_Go p e below s _ _ _ (T113.setTop (mkF m 83 #[.val (.int p1), .val (.int p2), .val (.int p3), .unset, .unset, .unset, .unset, .unset, .unset, .unset, .unset, .unset] [(.ref b5)]))
  refine own_st (fun _ kQ => XS.dup Xp119.here hx rfl (hb hby at_83) rfl rfl kQ) ?_
  show own_Go p e below s _ _ _ (T113.setTop (mkF m 84 #[.val (.int p1), .val (.int p2), .val (.int p3), .unset, .unset, .unset, .unset, .unset, .unset, .unset, .unset, .unset] [(.ref b5), (.ref b5)]))
  refine own_st (fun _ kQ => XT.bipushV Xp119.here hx rfl (12 : Int32) (hb hby at_84) (by decide) kQ) ?_
  show own_Go p e below s _ _ _ (T113.setTop (mkF m 86 #[.val (.int p1), .val (.int p2), .val (.int p3), .unset, .unset, .unset, .unset, .unset, .unset, .unset, .unset, .unset] [(.int (12 : Int32)), (.ref b5), (.ref b5)]))
  have O120 : Old Z n0 h113 := (O110.wr W113 g7)
  have F121 : Sta Z h113 "com/example/epoch/epoch/protocol/ApiKey" "INIT_PRODUCER_ID" "Lcom/example/epoch/epoch/protocol/ApiKey;" (.ref a_INIT_PRODUCER_ID) := S_a_INIT_PRODUCER_ID.ext O120.2
  obtain ⟨T122, X122, e122, st122⟩ := getS2 Xp119 hx hZ hown (host := "") (Or.inl (hw _ (List.mem_of_getElem? (i := 28) rfl))) Via.refl e113 F121 (g := (mkF m 86 #[.val (.int p1), .val (.int p2), .val (.int p3), .unset, .unset, .unset, .unset, .unset, .unset, .unset, .unset, .unset] [(.int (12 : Int32)), (.ref b5), (.ref b5)])) rfl (hb hby at_86)
  refine own_st st122 ?_
  show own_Go p e below s _ _ _ (T122.setTop (mkF m 89 #[.val (.int p1), .val (.int p2), .val (.int p3), .unset, .unset, .unset, .unset, .unset, .unset, .unset, .unset, .unset] [(.ref a_INIT_PRODUCER_ID), (.int (12 : Int32)), (.ref b5), (.ref b5)]))
  obtain ⟨cl123, Ar123, kc123, S123, Nn123, H123, G123⟩ := id F116
  have hin123 : ¬ ((12 : Int32) < 0 ∨ cl123.slots.size ≤ ((12 : Int32) : Int32).toNatClampNeg) := inb_of S123 (by decide)
  have F124 : Exa Z h113 a_INIT_PRODUCER_ID "com/example/epoch/epoch/protocol/ApiKey" := Ex_a_INIT_PRODUCER_ID.ext O120.2
  obtain ⟨T123, h123, X123, e123, W123, st123⟩ := stR X122 hx hZ e122 Ar123 (j := (12 : Int32)) hin123 rfl (Sto.ofV Ar123 kc123 O5 (Ins.self F124)) (g := (mkF m 89 #[.val (.int p1), .val (.int p2), .val (.int p3), .unset, .unset, .unset, .unset, .unset, .unset, .unset, .unset, .unset] [(.ref a_INIT_PRODUCER_ID), (.int (12 : Int32)), (.ref b5), (.ref b5)])) rfl rfl (hb hby at_89)
  refine own_st st123 ?_
  have N125 := Fr.snoc X123 Np119 g7
  have F126 : Arv Z h123 b5 k5 (.object "com/example/epoch/epoch/protocol/ApiKey") (17 : Int32) [(.ref a_PRODUCE), (.ref a_FETCH), (.ref a_LIST_OFFSETS), (.ref a_METADATA), (.ref a_OFFSET_COMMIT), (.ref a_OFFSET_FETCH), (.ref a_FIND_COORDINATOR), (.ref a_JOIN_GROUP), (.ref a_HEARTBEAT), (.ref a_LEAVE_GROUP), (.ref a_SYNC_GROUP), (.ref a_API_VERSIONS), (.ref a_INIT_PRODUCER_ID), .null, .null, .null, .null] .null := Arv.set Ar123 kc123 S123 Nn123 H123 G123 rfl W123 12 (by decide) (Nat.le_of_ble_eq_true rfl)
  have lt127 : b5 < h123.size := Nat.lt_of_lt_of_le lt117 (Nat.le_of_eq W123.size.symm)
  have Zs128 : n0 ≤ h123.size := Nat.le_trans Zs118 (Nat.le_of_eq W123.size.symm)
  show own_Go p e below s _ _ _ (T123.setTop (mkF m 90 #[.val (.int p1), .val (.int p2), .val (.int p3), .unset, .unset, .unset, .unset, .unset, .unset, .unset, .unset, .unset] [(.ref b5)]))
  refine own_st (fun _ kQ => XS.dup X123.here hx rfl (hb hby at_90) rfl rfl kQ) ?_
  show own_Go p e below s _ _ _ (T123.setTop (mkF m 91 #[.val (.int p1), .val (.int p2), .val (.int p3), .unset, .unset, .unset, .unset, .unset, .unset, .unset, .unset, .unset] [(.ref b5), (.ref b5)]))
  refine own_st (fun _ kQ => XT.bipushV X123.here hx rfl (13 : Int32) (hb hby at_91) (by decide) kQ) ?_
  show own_Go p e below s _ _ _ (T123.setTop (mkF m 93 #[.val (.int p1), .val (.int p2), .val (.int p3), .unset, .unset, .unset, .unset, .unset, .unset, .unset, .unset, .unset] [(.int (13 : Int32)), (.ref b5), (.ref b5)]))
  have O129 : Old Z n0 h123 := (O120.wr W123 g7)
  have F130 : Sta Z h123 "com/example/epoch/epoch/protocol/ApiKey" "ADD_PARTITIONS_TO_TXN" "Lcom/example/epoch/epoch/protocol/ApiKey;" (.ref a_ADD_PARTITIONS_TO_TXN) := S_a_ADD_PARTITIONS_TO_TXN.ext O129.2
  obtain ⟨T131, X131, e131, st131⟩ := getS2 X123 hx hZ hown (host := "") (Or.inl (hw _ (List.mem_of_getElem? (i := 30) rfl))) Via.refl e123 F130 (g := (mkF m 93 #[.val (.int p1), .val (.int p2), .val (.int p3), .unset, .unset, .unset, .unset, .unset, .unset, .unset, .unset, .unset] [(.int (13 : Int32)), (.ref b5), (.ref b5)])) rfl (hb hby at_93)
  refine own_st st131 ?_
  show own_Go p e below s _ _ _ (T131.setTop (mkF m 96 #[.val (.int p1), .val (.int p2), .val (.int p3), .unset, .unset, .unset, .unset, .unset, .unset, .unset, .unset, .unset] [(.ref a_ADD_PARTITIONS_TO_TXN), (.int (13 : Int32)), (.ref b5), (.ref b5)]))
  obtain ⟨cl132, Ar132, kc132, S132, Nn132, H132, G132⟩ := id F126
  have hin132 : ¬ ((13 : Int32) < 0 ∨ cl132.slots.size ≤ ((13 : Int32) : Int32).toNatClampNeg) := inb_of S132 (by decide)
  have F133 : Exa Z h123 a_ADD_PARTITIONS_TO_TXN "com/example/epoch/epoch/protocol/ApiKey" := Ex_a_ADD_PARTITIONS_TO_TXN.ext O129.2
  obtain ⟨T132, h132, X132, e132, W132, st132⟩ := stR X131 hx hZ e131 Ar132 (j := (13 : Int32)) hin132 rfl (Sto.ofV Ar132 kc132 O5 (Ins.self F133)) (g := (mkF m 96 #[.val (.int p1), .val (.int p2), .val (.int p3), .unset, .unset, .unset, .unset, .unset, .unset, .unset, .unset, .unset] [(.ref a_ADD_PARTITIONS_TO_TXN), (.int (13 : Int32)), (.ref b5), (.ref b5)])) rfl rfl (hb hby at_96)
  refine own_st st132 ?_
  have N134 := Fr.snoc X132 N125 g7
  have F135 : Arv Z h132 b5 k5 (.object "com/example/epoch/epoch/protocol/ApiKey") (17 : Int32) [(.ref a_PRODUCE), (.ref a_FETCH), (.ref a_LIST_OFFSETS), (.ref a_METADATA), (.ref a_OFFSET_COMMIT), (.ref a_OFFSET_FETCH), (.ref a_FIND_COORDINATOR), (.ref a_JOIN_GROUP), (.ref a_HEARTBEAT), (.ref a_LEAVE_GROUP), (.ref a_SYNC_GROUP), (.ref a_API_VERSIONS), (.ref a_INIT_PRODUCER_ID), (.ref a_ADD_PARTITIONS_TO_TXN), .null, .null, .null] .null := Arv.set Ar132 kc132 S132 Nn132 H132 G132 rfl W132 13 (by decide) (Nat.le_of_ble_eq_true rfl)
  have lt136 : b5 < h132.size := Nat.lt_of_lt_of_le lt127 (Nat.le_of_eq W132.size.symm)
  have Zs137 : n0 ≤ h132.size := Nat.le_trans Zs128 (Nat.le_of_eq W132.size.symm)
  show own_Go p e below s _ _ _ (T132.setTop (mkF m 97 #[.val (.int p1), .val (.int p2), .val (.int p3), .unset, .unset, .unset, .unset, .unset, .unset, .unset, .unset, .unset] [(.ref b5)]))
  refine own_st (fun _ kQ => XS.dup X132.here hx rfl (hb hby at_97) rfl rfl kQ) ?_
  show own_Go p e below s _ _ _ (T132.setTop (mkF m 98 #[.val (.int p1), .val (.int p2), .val (.int p3), .unset, .unset, .unset, .unset, .unset, .unset, .unset, .unset, .unset] [(.ref b5), (.ref b5)]))
  refine own_st (fun _ kQ => XT.bipushV X132.here hx rfl (14 : Int32) (hb hby at_98) (by decide) kQ) ?_
  show own_Go p e below s _ _ _ (T132.setTop (mkF m 100 #[.val (.int p1), .val (.int p2), .val (.int p3), .unset, .unset, .unset, .unset, .unset, .unset, .unset, .unset, .unset] [(.int (14 : Int32)), (.ref b5), (.ref b5)]))
  have O138 : Old Z n0 h132 := (O129.wr W132 g7)
  have F139 : Sta Z h132 "com/example/epoch/epoch/protocol/ApiKey" "ADD_OFFSETS_TO_TXN" "Lcom/example/epoch/epoch/protocol/ApiKey;" (.ref a_ADD_OFFSETS_TO_TXN) := S_a_ADD_OFFSETS_TO_TXN.ext O138.2
  obtain ⟨T140, X140, e140, st140⟩ := getS2 X132 hx hZ hown (host := "") (Or.inl (hw _ (List.mem_of_getElem? (i := 32) rfl))) Via.refl e132 F139 (g := (mkF m 100 #[.val (.int p1), .val (.int p2), .val (.int p3), .unset, .unset, .unset, .unset, .unset, .unset, .unset, .unset, .unset] [(.int (14 : Int32)), (.ref b5), (.ref b5)])) rfl (hb hby at_100)
  refine own_st st140 ?_
  show own_Go p e below s _ _ _ (T140.setTop (mkF m 103 #[.val (.int p1), .val (.int p2), .val (.int p3), .unset, .unset, .unset, .unset, .unset, .unset, .unset, .unset, .unset] [(.ref a_ADD_OFFSETS_TO_TXN), (.int (14 : Int32)), (.ref b5), (.ref b5)]))
  obtain ⟨cl141, Ar141, kc141, S141, Nn141, H141, G141⟩ := id F135
  have hin141 : ¬ ((14 : Int32) < 0 ∨ cl141.slots.size ≤ ((14 : Int32) : Int32).toNatClampNeg) := inb_of S141 (by decide)
  have F142 : Exa Z h132 a_ADD_OFFSETS_TO_TXN "com/example/epoch/epoch/protocol/ApiKey" := Ex_a_ADD_OFFSETS_TO_TXN.ext O138.2
  obtain ⟨T141, h141, X141, e141, W141, st141⟩ := stR X140 hx hZ e140 Ar141 (j := (14 : Int32)) hin141 rfl (Sto.ofV Ar141 kc141 O5 (Ins.self F142)) (g := (mkF m 103 #[.val (.int p1), .val (.int p2), .val (.int p3), .unset, .unset, .unset, .unset, .unset, .unset, .unset, .unset, .unset] [(.ref a_ADD_OFFSETS_TO_TXN), (.int (14 : Int32)), (.ref b5), (.ref b5)])) rfl rfl (hb hby at_103)
  refine own_st st141 ?_
  have N143 := Fr.snoc X141 N134 g7
  have F144 : Arv Z h141 b5 k5 (.object "com/example/epoch/epoch/protocol/ApiKey") (17 : Int32) [(.ref a_PRODUCE), (.ref a_FETCH), (.ref a_LIST_OFFSETS), (.ref a_METADATA), (.ref a_OFFSET_COMMIT), (.ref a_OFFSET_FETCH), (.ref a_FIND_COORDINATOR), (.ref a_JOIN_GROUP), (.ref a_HEARTBEAT), (.ref a_LEAVE_GROUP), (.ref a_SYNC_GROUP), (.ref a_API_VERSIONS), (.ref a_INIT_PRODUCER_ID), (.ref a_ADD_PARTITIONS_TO_TXN), (.ref a_ADD_OFFSETS_TO_TXN), .null, .null] .null := Arv.set Ar141 kc141 S141 Nn141 H141 G141 rfl W141 14 (by decide) (Nat.le_of_ble_eq_true rfl)
  have lt145 : b5 < h141.size := Nat.lt_of_lt_of_le lt136 (Nat.le_of_eq W141.size.symm)
  have Zs146 : n0 ≤ h141.size := Nat.le_trans Zs137 (Nat.le_of_eq W141.size.symm)
  show own_Go p e below s _ _ _ (T141.setTop (mkF m 104 #[.val (.int p1), .val (.int p2), .val (.int p3), .unset, .unset, .unset, .unset, .unset, .unset, .unset, .unset, .unset] [(.ref b5)]))
  refine own_st (fun _ kQ => XS.dup X141.here hx rfl (hb hby at_104) rfl rfl kQ) ?_
  show own_Go p e below s _ _ _ (T141.setTop (mkF m 105 #[.val (.int p1), .val (.int p2), .val (.int p3), .unset, .unset, .unset, .unset, .unset, .unset, .unset, .unset, .unset] [(.ref b5), (.ref b5)]))
  refine own_st (fun _ kQ => XT.bipushV X141.here hx rfl (15 : Int32) (hb hby at_105) (by decide) kQ) ?_
  show own_Go p e below s _ _ _ (T141.setTop (mkF m 107 #[.val (.int p1), .val (.int p2), .val (.int p3), .unset, .unset, .unset, .unset, .unset, .unset, .unset, .unset, .unset] [(.int (15 : Int32)), (.ref b5), (.ref b5)]))
  have O147 : Old Z n0 h141 := (O138.wr W141 g7)
  have F148 : Sta Z h141 "com/example/epoch/epoch/protocol/ApiKey" "END_TXN" "Lcom/example/epoch/epoch/protocol/ApiKey;" (.ref a_END_TXN) := S_a_END_TXN.ext O147.2
  obtain ⟨T149, X149, e149, st149⟩ := getS2 X141 hx hZ hown (host := "") (Or.inl (hw _ (List.mem_of_getElem? (i := 34) rfl))) Via.refl e141 F148 (g := (mkF m 107 #[.val (.int p1), .val (.int p2), .val (.int p3), .unset, .unset, .unset, .unset, .unset, .unset, .unset, .unset, .unset] [(.int (15 : Int32)), (.ref b5), (.ref b5)])) rfl (hb hby at_107)
  refine own_st st149 ?_
  show own_Go p e below s _ _ _ (T149.setTop (mkF m 110 #[.val (.int p1), .val (.int p2), .val (.int p3), .unset, .unset, .unset, .unset, .unset, .unset, .unset, .unset, .unset] [(.ref a_END_TXN), (.int (15 : Int32)), (.ref b5), (.ref b5)]))
  obtain ⟨cl150, Ar150, kc150, S150, Nn150, H150, G150⟩ := id F144
  have hin150 : ¬ ((15 : Int32) < 0 ∨ cl150.slots.size ≤ ((15 : Int32) : Int32).toNatClampNeg) := inb_of S150 (by decide)
  have F151 : Exa Z h141 a_END_TXN "com/example/epoch/epoch/protocol/ApiKey" := Ex_a_END_TXN.ext O147.2
  obtain ⟨T150, h150, X150, e150, W150, st150⟩ := stR X149 hx hZ e149 Ar150 (j := (15 : Int32)) hin150 rfl (Sto.ofV Ar150 kc150 O5 (Ins.self F151)) (g := (mkF m 110 #[.val (.int p1), .val (.int p2), .val (.int p3), .unset, .unset, .unset, .unset, .unset, .unset, .unset, .unset, .unset] [(.ref a_END_TXN), (.int (15 : Int32)), (.ref b5), (.ref b5)])) rfl rfl (hb hby at_110)
  refine own_st st150 ?_
  have N152 := Fr.snoc X150 N143 g7
  have F153 : Arv Z h150 b5 k5 (.object "com/example/epoch/epoch/protocol/ApiKey") (17 : Int32) [(.ref a_PRODUCE), (.ref a_FETCH), (.ref a_LIST_OFFSETS), (.ref a_METADATA), (.ref a_OFFSET_COMMIT), (.ref a_OFFSET_FETCH), (.ref a_FIND_COORDINATOR), (.ref a_JOIN_GROUP), (.ref a_HEARTBEAT), (.ref a_LEAVE_GROUP), (.ref a_SYNC_GROUP), (.ref a_API_VERSIONS), (.ref a_INIT_PRODUCER_ID), (.ref a_ADD_PARTITIONS_TO_TXN), (.ref a_ADD_OFFSETS_TO_TXN), (.ref a_END_TXN), .null] .null := Arv.set Ar150 kc150 S150 Nn150 H150 G150 rfl W150 15 (by decide) (Nat.le_of_ble_eq_true rfl)
  have lt154 : b5 < h150.size := Nat.lt_of_lt_of_le lt145 (Nat.le_of_eq W150.size.symm)
  have Zs155 : n0 ≤ h150.size := Nat.le_trans Zs146 (Nat.le_of_eq W150.size.symm)
  obtain ⟨Lp156, Xp156, Np156⟩ : ∃ L, Stand p l e room_1 s m #[(.int p1), (.int p2), (.int p3)] below meth c T150 L 1 17 ∧ Fr n0 L := ⟨_, X150, N152⟩
  show own_Go p e below s _ _ _ (T150.setTop (mkF m 111 #[.val (.int p1), .val (.int p2), .val (.int p3), .unset, .unset, .unset, .unset, .unset, .unset, .unset, .unset, .unset] [(.ref b5)]))
  refine own_st (fun _ kQ => XS.dup Xp156.here hx rfl (hb hby at_111) rfl rfl kQ) ?_
  show own_Go p e below s _ _ _ (T150.setTop (mkF m 112 #[.val (.int p1), .val (.int p2), .val (.int p3), .unset, .unset, .unset, .unset, .unset, .unset, .unset, .unset, .unset] [(.ref b5), (.ref b5)]))
  refine own_st (fun _ kQ => XT.bipushV Xp156.here hx rfl (16 : Int32) (hb hby at_112) (by decide) kQ) ?_
  show own_Go p e below s _ _ _ (T150.setTop (mkF m 114 #[.val (.int p1), .val (.int p2), .val (.int p3), .unset, .unset, .unset, .unset, .unset, .unset, .unset, .unset, .unset] [(.int (16 : Int32)), (.ref b5), (.ref b5)]))
  have O157 : Old Z n0 h150 := (O147.wr W150 g7)
  have F158 : Sta Z h150 "com/example/epoch/epoch/protocol/ApiKey" "TXN_OFFSET_COMMIT" "Lcom/example/epoch/epoch/protocol/ApiKey;" (.ref a_TXN_OFFSET_COMMIT) := S_a_TXN_OFFSET_COMMIT.ext O157.2
  obtain ⟨T159, X159, e159, st159⟩ := getS2 Xp156 hx hZ hown (host := "") (Or.inl (hw _ (List.mem_of_getElem? (i := 36) rfl))) Via.refl e150 F158 (g := (mkF m 114 #[.val (.int p1), .val (.int p2), .val (.int p3), .unset, .unset, .unset, .unset, .unset, .unset, .unset, .unset, .unset] [(.int (16 : Int32)), (.ref b5), (.ref b5)])) rfl (hb hby at_114)
  refine own_st st159 ?_
  show own_Go p e below s _ _ _ (T159.setTop (mkF m 117 #[.val (.int p1), .val (.int p2), .val (.int p3), .unset, .unset, .unset, .unset, .unset, .unset, .unset, .unset, .unset] [(.ref a_TXN_OFFSET_COMMIT), (.int (16 : Int32)), (.ref b5), (.ref b5)]))
  obtain ⟨cl160, Ar160, kc160, S160, Nn160, H160, G160⟩ := id F153
  have hin160 : ¬ ((16 : Int32) < 0 ∨ cl160.slots.size ≤ ((16 : Int32) : Int32).toNatClampNeg) := inb_of S160 (by decide)
  have F161 : Exa Z h150 a_TXN_OFFSET_COMMIT "com/example/epoch/epoch/protocol/ApiKey" := Ex_a_TXN_OFFSET_COMMIT.ext O157.2
  obtain ⟨T160, h160, X160, e160, W160, st160⟩ := stR X159 hx hZ e159 Ar160 (j := (16 : Int32)) hin160 rfl (Sto.ofV Ar160 kc160 O5 (Ins.self F161)) (g := (mkF m 117 #[.val (.int p1), .val (.int p2), .val (.int p3), .unset, .unset, .unset, .unset, .unset, .unset, .unset, .unset, .unset] [(.ref a_TXN_OFFSET_COMMIT), (.int (16 : Int32)), (.ref b5), (.ref b5)])) rfl rfl (hb hby at_117)
  refine own_st st160 ?_
  have N162 := Fr.snoc X160 Np156 g7
  have F163 : Arv Z h160 b5 k5 (.object "com/example/epoch/epoch/protocol/ApiKey") (17 : Int32) [(.ref a_PRODUCE), (.ref a_FETCH), (.ref a_LIST_OFFSETS), (.ref a_METADATA), (.ref a_OFFSET_COMMIT), (.ref a_OFFSET_FETCH), (.ref a_FIND_COORDINATOR), (.ref a_JOIN_GROUP), (.ref a_HEARTBEAT), (.ref a_LEAVE_GROUP), (.ref a_SYNC_GROUP), (.ref a_API_VERSIONS), (.ref a_INIT_PRODUCER_ID), (.ref a_ADD_PARTITIONS_TO_TXN), (.ref a_ADD_OFFSETS_TO_TXN), (.ref a_END_TXN), (.ref a_TXN_OFFSET_COMMIT)] .null := Arv.set Ar160 kc160 S160 Nn160 H160 G160 rfl W160 16 (by decide) (Nat.le_of_ble_eq_true rfl)
  have lt164 : b5 < h160.size := Nat.lt_of_lt_of_le lt154 (Nat.le_of_eq W160.size.symm)
  have Zs165 : n0 ≤ h160.size := Nat.le_trans Zs155 (Nat.le_of_eq W160.size.symm)
  show own_Go p e below s _ _ _ (T160.setTop (mkF m 118 #[.val (.int p1), .val (.int p2), .val (.int p3), .unset, .unset, .unset, .unset, .unset, .unset, .unset, .unset, .unset] [(.ref b5)]))
  refine own_st (fun _ kQ => XS.astoreN X160.here hx rfl (hb hby at_118) rfl rfl (l' := #[.val (.int p1), .val (.int p2), .val (.int p3), .val (.ref b5), .unset, .unset, .unset, .unset, .unset, .unset, .unset, .unset]) rfl kQ) ?_
  show own_Go p e below s _ _ _ (T160.setTop (mkF m 119 #[.val (.int p1), .val (.int p2), .val (.int p3), .val (.ref b5), .unset, .unset, .unset, .unset, .unset, .unset, .unset, .unset] []))
  refine own_st (fun _ kQ => XT.bipushV X160.here hx rfl (17 : Int32) (hb hby at_119) (by decide) kQ) ?_
  show own_Go p e below s _ _ _ (T160.setTop (mkF m 121 #[.val (.int p1), .val (.int p2), .val (.int p3), .val (.ref b5), .unset, .unset, .unset, .unset, .unset, .unset, .unset, .unset] [(.int (17 : Int32))]))
  obtain ⟨T166, h166, k166, X166, e166, E166, A166, Ea166, st166⟩ := newPE X160 hx hZ (aty := .int) (hw _ (List.mem_of_getElem? (i := 38) rfl)) e160 (g := (mkF m 121 #[.val (.int p1), .val (.int p2), .val (.int p3), .val (.ref b5), .unset, .unset, .unset, .unset, .unset, .unset, .unset, .unset] [(.int (17 : Int32))])) rfl (hb hby at_121) rfl (by decide) (cap := 17) (by decide) (by decide) (by decide) (by decide) (ad := "[I") (by decide +kernel)
  obtain ⟨b166, g166⟩ : ∃ z, z = h160.size := ⟨_, rfl⟩
  rw [← g166] at A166 Ea166 st166
  refine own_st st166 ?_
  have lt167 : b5 < h166.size := Nat.lt_of_lt_of_le lt164 E166.1
  have Zs168 : n0 ≤ h166.size := Nat.le_trans Zs165 E166.1
  have ne169 : b5 ≠ b166 := Nat.ne_of_lt (Nat.lt_of_lt_of_le lt164 (Nat.le_of_eq g166.symm))
  have g170 : n0 ≤ b166 := Nat.le_trans Zs165 (Nat.le_of_eq g166.symm)
  have F171 : Arv Z h166 b166 k166 .int (17 : Int32) [(.int (0 : Int32)), (.int (0 : Int32)), (.int (0 : Int32)), (.int (0 : Int32)), (.int (0 : Int32)), (.int (0 : Int32)), (.int (0 : Int32)), (.int (0 : Int32)), (.int (0 : Int32)), (.int (0 : Int32)), (.int (0 : Int32)), (.int (0 : Int32)), (.int (0 : Int32)), (.int (0 : Int32)), (.int (0 : Int32)), (.int (0 : Int32)), (.int (0 : Int32))] (.int (0 : Int32)) := (Arv.new A166 (by decide)).pad (fun i => own_pad 17 _ i)
  show own_Go p e below s _ _ _ (T166.setTop (mkF m 123 #[.val (.int p1), .val (.int p2), .val (.int p3), .val (.ref b5), .unset, .unset, .unset, .unset, .unset, .unset, .unset, .unset] [(.ref b166)]))
  refine own_st (fun _ kQ => XS.dup X166.here hx rfl (hb hby at_123) rfl rfl kQ) ?_
  show own_Go p e below s _ _ _ (T166.setTop (mkF m 124 #[.val (.int p1), .val (.int p2), .val (.int p3), .val (.ref b5), .unset, .unset, .unset, .unset, .unset, .unset, .unset, .unset] [(.ref b166), (.ref b166)]))
  refine own_st (fun _ kQ => XT.iconstV X166.here hx rfl (0 : Int32) (hb hby at_124) (by decide) kQ) ?_
  show own_Go p e below s _ _ _ (T166.setTop (mkF m 125 #[.val (.int p1), .val (.int p2), .val (.int p3), .val (.ref b5), .unset, .unset, .unset, .unset, .unset, .unset, .unset, .unset] [(.int (0 : Int32)), (.ref b166), (.ref b166)]))
  refine own_st (fun _ kQ => XT.iconstV X166.here hx rfl (3 : Int32) (hb hby at_125) (by decide) kQ) ?_
  show own_Go p e below s _ _ _ (T166.setTop (mkF m 126 #[.val (.int p1), .val (.int p2), .val (.int p3), .val (.ref b5), .unset, .unset, .unset, .unset, .unset, .unset, .unset, .unset] [(.int (3 : Int32)), (.int (0 : Int32)), (.ref b166), (.ref b166)]))
  obtain ⟨cl172, Ar172, kc172, S172, Nn172, H172, G172⟩ := id F171
  have hin172 : ¬ ((0 : Int32) < 0 ∨ cl172.slots.size ≤ ((0 : Int32) : Int32).toNatClampNeg) := inb_of S172 (by decide)
  obtain ⟨T172, h172, X172, e172, W172, st172⟩ := stI X166 hx hZ e166 Ar172 (j := (0 : Int32)) hin172 (g := (mkF m 126 #[.val (.int p1), .val (.int p2), .val (.int p3), .val (.ref b5), .unset, .unset, .unset, .unset, .unset, .unset, .unset, .unset] [(.int (3 : Int32)), (.int (0 : Int32)), (.ref b166), (.ref b166)])) rfl rfl (hb hby at_126)
  refine own_st st172 ?_
  have N173 := Fr.snoc X172 N162 g170
  have F174 : Arv Z h172 b166 k166 .int (17 : Int32) [(.int (3 : Int32)), (.int (0 : Int32)), (.int (0 : Int32)), (.int (0 : Int32)), (.int (0 : Int32)), (.int (0 : Int32)), (.int (0 : Int32)), (.int (0 : Int32)), (.int (0 : Int32)), (.int (0 : Int32)), (.int (0 : Int32)), (.int (0 : Int32)), (.int (0 : Int32)), (.int (0 : Int32)), (.int (0 : Int32)), (.int (0 : Int32)), (.int (0 : Int32))] (.int (0 : Int32)) := Arv.set Ar172 kc172 S172 Nn172 H172 G172 rfl W172 0 (by decide) (Nat.le_of_ble_eq_true rfl)
  have lt175 : b5 < h172.size := Nat.lt_of_lt_of_le lt167 (Nat.le_of_eq W172.size.symm)
  have lt176 : b166 < h172.size := Nat.lt_of_lt_of_le A166.lt (Nat.le_of_eq W172.size.symm)
  have Zs177 : n0 ≤ h172.size := Nat.le_trans Zs168 (Nat.le_of_eq W172.size.symm)
  show own_Go p e below s _ _ _ (T172.setTop (mkF m 127 #[.val (.int p1), .val (.int p2), .val (.int p3), .val (.ref b5), .unset, .unset, .unset, .unset, .unset, .unset, .unset, .unset] [(.ref b166)]))
  refine own_st (fun _ kQ => XS.dup X172.here hx rfl (hb hby at_127) rfl rfl kQ) ?_
  show own_Go p e below s _ _ _ (T172.setTop (mkF m 128 #[.val (.int p1), .val (.int p2), .val (.int p3), .val (.ref b5), .unset, .unset, .unset, .unset, .unset, .unset, .unset, .unset] [(.ref b166), (.ref b166)]))
  refine own_st (fun _ kQ => XT.iconstV X172.here hx rfl (1 : Int32) (hb hby at_128) (by decide) kQ) ?_
  show own_Go p e below s _ _ _ (T172.setTop (mkF m 129 #[.val (.int p1), .val (.int p2), .val (.int p3), .val (.ref b5), .unset, .unset, .unset, .unset, .unset, .unset, .unset, .unset] [(.int (1 : Int32)), (.ref b166), (.ref b166)]))
  refine own_st (fun _ kQ => XT.iconstV X172.here hx rfl (4 : Int32) (hb hby at_129) (by decide) kQ) ?_
  show own_Go p e below s _ _ _ (T172.setTop (mkF m 130 #[.val (.int p1), .val (.int p2), .val (.int p3), .val (.ref b5), .unset, .unset, .unset, .unset, .unset, .unset, .unset, .unset] [(.int (4 : Int32)), (.int (1 : Int32)), (.ref b166), (.ref b166)]))
  obtain ⟨cl178, Ar178, kc178, S178, Nn178, H178, G178⟩ := id F174
  have hin178 : ¬ ((1 : Int32) < 0 ∨ cl178.slots.size ≤ ((1 : Int32) : Int32).toNatClampNeg) := inb_of S178 (by decide)
  obtain ⟨T178, h178, X178, e178, W178, st178⟩ := stI X172 hx hZ e172 Ar178 (j := (1 : Int32)) hin178 (g := (mkF m 130 #[.val (.int p1), .val (.int p2), .val (.int p3), .val (.ref b5), .unset, .unset, .unset, .unset, .unset, .unset, .unset, .unset] [(.int (4 : Int32)), (.int (1 : Int32)), (.ref b166), (.ref b166)])) rfl rfl (hb hby at_130)
  refine own_st st178 ?_
  have N179 := Fr.snoc X178 N173 g170
  have F180 : Arv Z h178 b166 k166 .int (17 : Int32) [(.int (3 : Int32)), (.int (4 : Int32)), (.int (0 : Int32)), (.int (0 : Int32)), (.int (0 : Int32)), (.int (0 : Int32)), (.int (0 : Int32)), (.int (0 : Int32)), (.int (0 : Int32)), (.int (0 : Int32)), (.int (0 : Int32)), (.int (0 : Int32)), (.int (0 : Int32)), (.int (0 : Int32)), (.int (0 : Int32)), (.int (0 : Int32)), (.int (0 : Int32))] (.int (0 : Int32)) := Arv.set Ar178 kc178 S178 Nn178 H178 G178 rfl W178 1 (by decide) (Nat.le_of_ble_eq_true rfl)
  have lt181 : b5 < h178.size := Nat.lt_of_lt_of_le lt175 (Nat.le_of_eq W178.size.symm)
  have lt182 : b166 < h178.size := Nat.lt_of_lt_of_le lt176 (Nat.le_of_eq W178.size.symm)
  have Zs183 : n0 ≤ h178.size := Nat.le_trans Zs177 (Nat.le_of_eq W178.size.symm)
  show own_Go p e below s _ _ _ (T178.setTop (mkF m 131 #[.val (.int p1), .val (.int p2), .val (.int p3), .val (.ref b5), .unset, .unset, .unset, .unset, .unset, .unset, .unset, .unset] [(.ref b166)]))
  refine own_st (fun _ kQ => XS.dup X178.here hx rfl (hb hby at_131) rfl rfl kQ) ?_
  show own_Go p e below s _ _ _ (T178.setTop (mkF m 132 #[.val (.int p1), .val (.int p2), .val (.int p3), .val (.ref b5), .unset, .unset, .unset, .unset, .unset, .unset, .unset, .unset] [(.ref b166), (.ref b166)]))
  refine own_st (fun _ kQ => XT.iconstV X178.here hx rfl (2 : Int32) (hb hby at_132) (by decide) kQ) ?_
  show own_Go p e below s _ _ _ (T178.setTop (mkF m 133 #[.val (.int p1), .val (.int p2), .val (.int p3), .val (.ref b5), .unset, .unset, .unset, .unset, .unset, .unset, .unset, .unset] [(.int (2 : Int32)), (.ref b166), (.ref b166)]))
  refine own_st (fun _ kQ => XT.iconstV X178.here hx rfl (1 : Int32) (hb hby at_133) (by decide) kQ) ?_
  show own_Go p e below s _ _ _ (T178.setTop (mkF m 134 #[.val (.int p1), .val (.int p2), .val (.int p3), .val (.ref b5), .unset, .unset, .unset, .unset, .unset, .unset, .unset, .unset] [(.int (1 : Int32)), (.int (2 : Int32)), (.ref b166), (.ref b166)]))
  obtain ⟨cl184, Ar184, kc184, S184, Nn184, H184, G184⟩ := id F180
  have hin184 : ¬ ((2 : Int32) < 0 ∨ cl184.slots.size ≤ ((2 : Int32) : Int32).toNatClampNeg) := inb_of S184 (by decide)
  obtain ⟨T184, h184, X184, e184, W184, st184⟩ := stI X178 hx hZ e178 Ar184 (j := (2 : Int32)) hin184 (g := (mkF m 134 #[.val (.int p1), .val (.int p2), .val (.int p3), .val (.ref b5), .unset, .unset, .unset, .unset, .unset, .unset, .unset, .unset] [(.int (1 : Int32)), (.int (2 : Int32)), (.ref b166), (.ref b166)])) rfl rfl (hb hby at_134)
  refine own_st st184 ?_
  have N185 := Fr.snoc X184 N179 g170
  have F186 : Arv Z h184 b166 k166 .int (17 : Int32) [(.int (3 : Int32)), (.int (4 : Int32)), (.int (1 : Int32)), (.int (0 : Int32)), (.int (0 : Int32)), (.int (0 : Int32)), (.int (0 : Int32)), (.int (0 : Int32)), (.int (0 : Int32)), (.int (0 : Int32)), (.int (0 : Int32)), (.int (0 : Int32)), (.int (0 : Int32)), (.int (0 : Int32)), (.int (0 : Int32)), (.int (0 : Int32)), (.int (0 : Int32))] (.int (0 : Int32)) := Arv.set Ar184 kc184 S184 Nn184 H184 G184 rfl W184 2 (by decide) (Nat.le_of_ble_eq_true rfl)
  have lt187 : b5 < h184.size := Nat.lt_of_lt_of_le lt181 (Nat.le_of_eq W184.size.symm)
  have lt188 : b166 < h184.size := Nat.lt_of_lt_of_le lt182 (Nat.le_of_eq W184.size.symm)
  have Zs189 : n0 ≤ h184.size := Nat.le_trans Zs183 (Nat.le_of_eq W184.size.symm)
  obtain ⟨Lp190, Xp190, Np190⟩ : ∃ L, Stand p l e room_1 s m #[(.int p1), (.int p2), (.int p3)] below meth c T184 L 2 34 ∧ Fr n0 L := ⟨_, X184, N185⟩
  show own_Go p e below s _ _ _ (T184.setTop (mkF m 135 #[.val (.int p1), .val (.int p2), .val (.int p3), .val (.ref b5), .unset, .unset, .unset, .unset, .unset, .unset, .unset, .unset] [(.ref b166)]))
  refine own_st (fun _ kQ => XS.dup Xp190.here hx rfl (hb hby at_135) rfl rfl kQ) ?_
  show own_Go p e below s _ _ _ (T184.setTop (mkF m 136 #[.val (.int p1), .val (.int p2), .val (.int p3), .val (.ref b5), .unset, .unset, .unset, .unset, .unset, .unset, .unset, .unset] [(.ref b166), (.ref b166)]))
  refine own_st (fun _ kQ => XT.iconstV Xp190.here hx rfl (3 : Int32) (hb hby at_136) (by decide) kQ) ?_
  show own_Go p e below s _ _ _ (T184.setTop (mkF m 137 #[.val (.int p1), .val (.int p2), .val (.int p3), .val (.ref b5), .unset, .unset, .unset, .unset, .unset, .unset, .unset, .unset] [(.int (3 : Int32)), (.ref b166), (.ref b166)]))
  refine own_st (fun _ kQ => XT.iconstV Xp190.here hx rfl (0 : Int32) (hb hby at_137) (by decide) kQ) ?_
  show own_Go p e below s _ _ _ (T184.setTop (mkF m 138 #[.val (.int p1), .val (.int p2), .val (.int p3), .val (.ref b5), .unset, .unset, .unset, .unset, .unset, .unset, .unset, .unset] [(.int (0 : Int32)), (.int (3 : Int32)), (.ref b166), (.ref b166)]))
  obtain ⟨cl191, Ar191, kc191, S191, Nn191, H191, G191⟩ := id F186
  have hin191 : ¬ ((3 : Int32) < 0 ∨ cl191.slots.size ≤ ((3 : Int32) : Int32).toNatClampNeg) := inb_of S191 (by decide)
  obtain ⟨T191, h191, X191, e191, W191, st191⟩ := stI Xp190 hx hZ e184 Ar191 (j := (3 : Int32)) hin191 (g := (mkF m 138 #[.val (.int p1), .val (.int p2), .val (.int p3), .val (.ref b5), .unset, .unset, .unset, .unset, .unset, .unset, .unset, .unset] [(.int (0 : Int32)), (.int (3 : Int32)), (.ref b166), (.ref b166)])) rfl rfl (hb hby at_138)
  refine own_st st191 ?_
  have N192 := Fr.snoc X191 Np190 g170
  have F193 : Arv Z h191 b166 k166 .int (17 : Int32) [(.int (3 : Int32)), (.int (4 : Int32)), (.int (1 : Int32)), (.int (0 : Int32)), (.int (0 : Int32)), (.int (0 : Int32)), (.int (0 : Int32)), (.int (0 : Int32)), (.int (0 : Int32)), (.int (0 : Int32)), (.int (0 : Int32)), (.int (0 : Int32)), (.int (0 : Int32)), (.int (0 : Int32)), (.int (0 : Int32)), (.int (0 : Int32)), (.int (0 : Int32))] (.int (0 : Int32)) := Arv.set Ar191 kc191 S191 Nn191 H191 G191 rfl W191 3 (by decide) (Nat.le_of_ble_eq_true rfl)
  have lt194 : b5 < h191.size := Nat.lt_of_lt_of_le lt187 (Nat.le_of_eq W191.size.symm)
  have lt195 : b166 < h191.size := Nat.lt_of_lt_of_le lt188 (Nat.le_of_eq W191.size.symm)
  have Zs196 : n0 ≤ h191.size := Nat.le_trans Zs189 (Nat.le_of_eq W191.size.symm)
  show own_Go p e below s _ _ _ (T191.setTop (mkF m 139 #[.val (.int p1), .val (.int p2), .val (.int p3), .val (.ref b5), .unset, .unset, .unset, .unset, .unset, .unset, .unset, .unset] [(.ref b166)]))
  refine own_st (fun _ kQ => XS.dup X191.here hx rfl (hb hby at_139) rfl rfl kQ) ?_
  show own_Go p e below s _ _ _ (T191.setTop (mkF m 140 #[.val (.int p1), .val (.int p2), .val (.int p3), .val (.ref b5), .unset, .unset, .unset, .unset, .unset, .unset, .unset, .unset] [(.ref b166), (.ref b166)]))
  refine own_st (fun _ kQ => XT.iconstV X191.here hx rfl (4 : Int32) (hb hby at_140) (by decide) kQ) ?_
  show own_Go p e below s _ _ _ (T191.setTop (mkF m 141 #[.val (.int p1), .val (.int p2), .val (.int p3), .val (.ref b5), .unset, .unset, .unset, .unset, .unset, .unset, .unset, .unset] [(.int (4 : Int32)), (.ref b166), (.ref b166)]))
  refine own_st (fun _ kQ => XT.iconstV X191.here hx rfl (0 : Int32) (hb hby at_141) (by decide) kQ) ?_
  show own_Go p e below s _ _ _ (T191.setTop (mkF m 142 #[.val (.int p1), .val (.int p2), .val (.int p3), .val (.ref b5), .unset, .unset, .unset, .unset, .unset, .unset, .unset, .unset] [(.int (0 : Int32)), (.int (4 : Int32)), (.ref b166), (.ref b166)]))
  obtain ⟨cl197, Ar197, kc197, S197, Nn197, H197, G197⟩ := id F193
  have hin197 : ¬ ((4 : Int32) < 0 ∨ cl197.slots.size ≤ ((4 : Int32) : Int32).toNatClampNeg) := inb_of S197 (by decide)
  obtain ⟨T197, h197, X197, e197, W197, st197⟩ := stI X191 hx hZ e191 Ar197 (j := (4 : Int32)) hin197 (g := (mkF m 142 #[.val (.int p1), .val (.int p2), .val (.int p3), .val (.ref b5), .unset, .unset, .unset, .unset, .unset, .unset, .unset, .unset] [(.int (0 : Int32)), (.int (4 : Int32)), (.ref b166), (.ref b166)])) rfl rfl (hb hby at_142)
  refine own_st st197 ?_
  have N198 := Fr.snoc X197 N192 g170
  have F199 : Arv Z h197 b166 k166 .int (17 : Int32) [(.int (3 : Int32)), (.int (4 : Int32)), (.int (1 : Int32)), (.int (0 : Int32)), (.int (0 : Int32)), (.int (0 : Int32)), (.int (0 : Int32)), (.int (0 : Int32)), (.int (0 : Int32)), (.int (0 : Int32)), (.int (0 : Int32)), (.int (0 : Int32)), (.int (0 : Int32)), (.int (0 : Int32)), (.int (0 : Int32)), (.int (0 : Int32)), (.int (0 : Int32))] (.int (0 : Int32)) := Arv.set Ar197 kc197 S197 Nn197 H197 G197 rfl W197 4 (by decide) (Nat.le_of_ble_eq_true rfl)
  have lt200 : b5 < h197.size := Nat.lt_of_lt_of_le lt194 (Nat.le_of_eq W197.size.symm)
  have lt201 : b166 < h197.size := Nat.lt_of_lt_of_le lt195 (Nat.le_of_eq W197.size.symm)
  have Zs202 : n0 ≤ h197.size := Nat.le_trans Zs196 (Nat.le_of_eq W197.size.symm)
  show own_Go p e below s _ _ _ (T197.setTop (mkF m 143 #[.val (.int p1), .val (.int p2), .val (.int p3), .val (.ref b5), .unset, .unset, .unset, .unset, .unset, .unset, .unset, .unset] [(.ref b166)]))
  refine own_st (fun _ kQ => XS.dup X197.here hx rfl (hb hby at_143) rfl rfl kQ) ?_
  show own_Go p e below s _ _ _ (T197.setTop (mkF m 144 #[.val (.int p1), .val (.int p2), .val (.int p3), .val (.ref b5), .unset, .unset, .unset, .unset, .unset, .unset, .unset, .unset] [(.ref b166), (.ref b166)]))
  refine own_st (fun _ kQ => XT.iconstV X197.here hx rfl (5 : Int32) (hb hby at_144) (by decide) kQ) ?_
  show own_Go p e below s _ _ _ (T197.setTop (mkF m 145 #[.val (.int p1), .val (.int p2), .val (.int p3), .val (.ref b5), .unset, .unset, .unset, .unset, .unset, .unset, .unset, .unset] [(.int (5 : Int32)), (.ref b166), (.ref b166)]))
  refine own_st (fun _ kQ => XT.iconstV X197.here hx rfl (0 : Int32) (hb hby at_145) (by decide) kQ) ?_
  show own_Go p e below s _ _ _ (T197.setTop (mkF m 146 #[.val (.int p1), .val (.int p2), .val (.int p3), .val (.ref b5), .unset, .unset, .unset, .unset, .unset, .unset, .unset, .unset] [(.int (0 : Int32)), (.int (5 : Int32)), (.ref b166), (.ref b166)]))
  obtain ⟨cl203, Ar203, kc203, S203, Nn203, H203, G203⟩ := id F199
  have hin203 : ¬ ((5 : Int32) < 0 ∨ cl203.slots.size ≤ ((5 : Int32) : Int32).toNatClampNeg) := inb_of S203 (by decide)
  obtain ⟨T203, h203, X203, e203, W203, st203⟩ := stI X197 hx hZ e197 Ar203 (j := (5 : Int32)) hin203 (g := (mkF m 146 #[.val (.int p1), .val (.int p2), .val (.int p3), .val (.ref b5), .unset, .unset, .unset, .unset, .unset, .unset, .unset, .unset] [(.int (0 : Int32)), (.int (5 : Int32)), (.ref b166), (.ref b166)])) rfl rfl (hb hby at_146)
  refine own_st st203 ?_
  have N204 := Fr.snoc X203 N198 g170
  have F205 : Arv Z h203 b166 k166 .int (17 : Int32) [(.int (3 : Int32)), (.int (4 : Int32)), (.int (1 : Int32)), (.int (0 : Int32)), (.int (0 : Int32)), (.int (0 : Int32)), (.int (0 : Int32)), (.int (0 : Int32)), (.int (0 : Int32)), (.int (0 : Int32)), (.int (0 : Int32)), (.int (0 : Int32)), (.int (0 : Int32)), (.int (0 : Int32)), (.int (0 : Int32)), (.int (0 : Int32)), (.int (0 : Int32))] (.int (0 : Int32)) := Arv.set Ar203 kc203 S203 Nn203 H203 G203 rfl W203 5 (by decide) (Nat.le_of_ble_eq_true rfl)
  have lt206 : b5 < h203.size := Nat.lt_of_lt_of_le lt200 (Nat.le_of_eq W203.size.symm)
  have lt207 : b166 < h203.size := Nat.lt_of_lt_of_le lt201 (Nat.le_of_eq W203.size.symm)
  have Zs208 : n0 ≤ h203.size := Nat.le_trans Zs202 (Nat.le_of_eq W203.size.symm)
  show own_Go p e below s _ _ _ (T203.setTop (mkF m 147 #[.val (.int p1), .val (.int p2), .val (.int p3), .val (.ref b5), .unset, .unset, .unset, .unset, .unset, .unset, .unset, .unset] [(.ref b166)]))
  refine own_st (fun _ kQ => XS.dup X203.here hx rfl (hb hby at_147) rfl rfl kQ) ?_
  show own_Go p e below s _ _ _ (T203.setTop (mkF m 148 #[.val (.int p1), .val (.int p2), .val (.int p3), .val (.ref b5), .unset, .unset, .unset, .unset, .unset, .unset, .unset, .unset] [(.ref b166), (.ref b166)]))
  refine own_st (fun _ kQ => XT.bipushV X203.here hx rfl (6 : Int32) (hb hby at_148) (by decide) kQ) ?_
  show own_Go p e below s _ _ _ (T203.setTop (mkF m 150 #[.val (.int p1), .val (.int p2), .val (.int p3), .val (.ref b5), .unset, .unset, .unset, .unset, .unset, .unset, .unset, .unset] [(.int (6 : Int32)), (.ref b166), (.ref b166)]))
  refine own_st (fun _ kQ => XT.iconstV X203.here hx rfl (0 : Int32) (hb hby at_150) (by decide) kQ) ?_
  show own_Go p e below s _ _ _ (T203.setTop (mkF m 151 #[.val (.int p1), .val (.int p2), .val (.int p3), .val (.ref b5), .unset, .unset, .unset, .unset, .unset, .unset, .unset, .unset] [(.int (0 : Int32)), (.int (6 : Int32)), (.ref b166), (.ref b166)]))
  obtain ⟨cl209, Ar209, kc209, S209, Nn209, H209, G209⟩ := id F205
  have hin209 : ¬ ((6 : Int32) < 0 ∨ cl209.slots.size ≤ ((6 : Int32) : Int32).toNatClampNeg) := inb_of S209 (by decide)
  obtain ⟨T209, h209, X209, e209, W209, st209⟩ := stI X203 hx hZ e203 Ar209 (j := (6 : Int32)) hin209 (g := (mkF m 151 #[.val (.int p1), .val (.int p2), .val (.int p3), .val (.ref b5), .unset, .unset, .unset, .unset, .unset, .unset, .unset, .unset] [(.int (0 : Int32)), (.int (6 : Int32)), (.ref b166), (.ref b166)])) rfl rfl (hb hby at_151)
  refine own_st st209 ?_
  have N210 := Fr.snoc X209 N204 g170
  have F211 : Arv Z h209 b166 k166 .int (17 : Int32) [(.int (3 : Int32)), (.int (4 : Int32)), (.int (1 : Int32)), (.int (0 : Int32)), (.int (0 : Int32)), (.int (0 : Int32)), (.int (0 : Int32)), (.int (0 : Int32)), (.int (0 : Int32)), (.int (0 : Int32)), (.int (0 : Int32)), (.int (0 : Int32)), (.int (0 : Int32)), (.int (0 : Int32)), (.int (0 : Int32)), (.int (0 : Int32)), (.int (0 : Int32))] (.int (0 : Int32)) := Arv.set Ar209 kc209 S209 Nn209 H209 G209 rfl W209 6 (by decide) (Nat.le_of_ble_eq_true rfl)
  have lt212 : b5 < h209.size := Nat.lt_of_lt_of_le lt206 (Nat.le_of_eq W209.size.symm)
  have lt213 : b166 < h209.size := Nat.lt_of_lt_of_le lt207 (Nat.le_of_eq W209.size.symm)
  have Zs214 : n0 ≤ h209.size := Nat.le_trans Zs208 (Nat.le_of_eq W209.size.symm)
  obtain ⟨Lp215, Xp215, Np215⟩ : ∃ L, Stand p l e room_1 s m #[(.int p1), (.int p2), (.int p3)] below meth c T209 L 2 34 ∧ Fr n0 L := ⟨_, X209, N210⟩
  show own_Go p e below s _ _ _ (T209.setTop (mkF m 152 #[.val (.int p1), .val (.int p2), .val (.int p3), .val (.ref b5), .unset, .unset, .unset, .unset, .unset, .unset, .unset, .unset] [(.ref b166)]))
  refine own_st (fun _ kQ => XS.dup Xp215.here hx rfl (hb hby at_152) rfl rfl kQ) ?_
  show own_Go p e below s _ _ _ (T209.setTop (mkF m 153 #[.val (.int p1), .val (.int p2), .val (.int p3), .val (.ref b5), .unset, .unset, .unset, .unset, .unset, .unset, .unset, .unset] [(.ref b166), (.ref b166)]))
  refine own_st (fun _ kQ => XT.bipushV Xp215.here hx rfl (7 : Int32) (hb hby at_153) (by decide) kQ) ?_
  show own_Go p e below s _ _ _ (T209.setTop (mkF m 155 #[.val (.int p1), .val (.int p2), .val (.int p3), .val (.ref b5), .unset, .unset, .unset, .unset, .unset, .unset, .unset, .unset] [(.int (7 : Int32)), (.ref b166), (.ref b166)]))
  refine own_st (fun _ kQ => XT.iconstV Xp215.here hx rfl (0 : Int32) (hb hby at_155) (by decide) kQ) ?_
  show own_Go p e below s _ _ _ (T209.setTop (mkF m 156 #[.val (.int p1), .val (.int p2), .val (.int p3), .val (.ref b5), .unset, .unset, .unset, .unset, .unset, .unset, .unset, .unset] [(.int (0 : Int32)), (.int (7 : Int32)), (.ref b166), (.ref b166)]))
  obtain ⟨cl216, Ar216, kc216, S216, Nn216, H216, G216⟩ := id F211
  have hin216 : ¬ ((7 : Int32) < 0 ∨ cl216.slots.size ≤ ((7 : Int32) : Int32).toNatClampNeg) := inb_of S216 (by decide)
  obtain ⟨T216, h216, X216, e216, W216, st216⟩ := stI Xp215 hx hZ e209 Ar216 (j := (7 : Int32)) hin216 (g := (mkF m 156 #[.val (.int p1), .val (.int p2), .val (.int p3), .val (.ref b5), .unset, .unset, .unset, .unset, .unset, .unset, .unset, .unset] [(.int (0 : Int32)), (.int (7 : Int32)), (.ref b166), (.ref b166)])) rfl rfl (hb hby at_156)
  refine own_st st216 ?_
  have N217 := Fr.snoc X216 Np215 g170
  have F218 : Arv Z h216 b166 k166 .int (17 : Int32) [(.int (3 : Int32)), (.int (4 : Int32)), (.int (1 : Int32)), (.int (0 : Int32)), (.int (0 : Int32)), (.int (0 : Int32)), (.int (0 : Int32)), (.int (0 : Int32)), (.int (0 : Int32)), (.int (0 : Int32)), (.int (0 : Int32)), (.int (0 : Int32)), (.int (0 : Int32)), (.int (0 : Int32)), (.int (0 : Int32)), (.int (0 : Int32)), (.int (0 : Int32))] (.int (0 : Int32)) := Arv.set Ar216 kc216 S216 Nn216 H216 G216 rfl W216 7 (by decide) (Nat.le_of_ble_eq_true rfl)
  have lt219 : b5 < h216.size := Nat.lt_of_lt_of_le lt212 (Nat.le_of_eq W216.size.symm)
  have lt220 : b166 < h216.size := Nat.lt_of_lt_of_le lt213 (Nat.le_of_eq W216.size.symm)
  have Zs221 : n0 ≤ h216.size := Nat.le_trans Zs214 (Nat.le_of_eq W216.size.symm)
  show own_Go p e below s _ _ _ (T216.setTop (mkF m 157 #[.val (.int p1), .val (.int p2), .val (.int p3), .val (.ref b5), .unset, .unset, .unset, .unset, .unset, .unset, .unset, .unset] [(.ref b166)]))
  refine own_st (fun _ kQ => XS.dup X216.here hx rfl (hb hby at_157) rfl rfl kQ) ?_
  show own_Go p e below s _ _ _ (T216.setTop (mkF m 158 #[.val (.int p1), .val (.int p2), .val (.int p3), .val (.ref b5), .unset, .unset, .unset, .unset, .unset, .unset, .unset, .unset] [(.ref b166), (.ref b166)]))
  refine own_st (fun _ kQ => XT.bipushV X216.here hx rfl (8 : Int32) (hb hby at_158) (by decide) kQ) ?_
  show own_Go p e below s _ _ _ (T216.setTop (mkF m 160 #[.val (.int p1), .val (.int p2), .val (.int p3), .val (.ref b5), .unset, .unset, .unset, .unset, .unset, .unset, .unset, .unset] [(.int (8 : Int32)), (.ref b166), (.ref b166)]))
  refine own_st (fun _ kQ => XT.iconstV X216.here hx rfl (0 : Int32) (hb hby at_160) (by decide) kQ) ?_
  show own_Go p e below s _ _ _ (T216.setTop (mkF m 161 #[.val (.int p1), .val (.int p2), .val (.int p3), .val (.ref b5), .unset, .unset, .unset, .unset, .unset, .unset, .unset, .unset] [(.int (0 : Int32)), (.int (8 : Int32)), (.ref b166), (.ref b166)]))
  obtain ⟨cl222, Ar222, kc222, S222, Nn222, H222, G222⟩ := id F218
  have hin222 : ¬ ((8 : Int32) < 0 ∨ cl222.slots.size ≤ ((8 : Int32) : Int32).toNatClampNeg) := inb_of S222 (by decide)
  obtain ⟨T222, h222, X222, e222, W222, st222⟩ := stI X216 hx hZ e216 Ar222 (j := (8 : Int32)) hin222 (g := (mkF m 161 #[.val (.int p1), .val (.int p2), .val (.int p3), .val (.ref b5), .unset, .unset, .unset, .unset, .unset, .unset, .unset, .unset] [(.int (0 : Int32)), (.int (8 : Int32)), (.ref b166), (.ref b166)])) rfl rfl (hb hby at_161)
  refine own_st st222 ?_
  have N223 := Fr.snoc X222 N217 g170
  have F224 : Arv Z h222 b166 k166 .int (17 : Int32) [(.int (3 : Int32)), (.int (4 : Int32)), (.int (1 : Int32)), (.int (0 : Int32)), (.int (0 : Int32)), (.int (0 : Int32)), (.int (0 : Int32)), (.int (0 : Int32)), (.int (0 : Int32)), (.int (0 : Int32)), (.int (0 : Int32)), (.int (0 : Int32)), (.int (0 : Int32)), (.int (0 : Int32)), (.int (0 : Int32)), (.int (0 : Int32)), (.int (0 : Int32))] (.int (0 : Int32)) := Arv.set Ar222 kc222 S222 Nn222 H222 G222 rfl W222 8 (by decide) (Nat.le_of_ble_eq_true rfl)
  have lt225 : b5 < h222.size := Nat.lt_of_lt_of_le lt219 (Nat.le_of_eq W222.size.symm)
  have lt226 : b166 < h222.size := Nat.lt_of_lt_of_le lt220 (Nat.le_of_eq W222.size.symm)
  have Zs227 : n0 ≤ h222.size := Nat.le_trans Zs221 (Nat.le_of_eq W222.size.symm)
  show own_Go p e below s _ _ _ (T222.setTop (mkF m 162 #[.val (.int p1), .val (.int p2), .val (.int p3), .val (.ref b5), .unset, .unset, .unset, .unset, .unset, .unset, .unset, .unset] [(.ref b166)]))
  refine own_st (fun _ kQ => XS.dup X222.here hx rfl (hb hby at_162) rfl rfl kQ) ?_
  show own_Go p e below s _ _ _ (T222.setTop (mkF m 163 #[.val (.int p1), .val (.int p2), .val (.int p3), .val (.ref b5), .unset, .unset, .unset, .unset, .unset, .unset, .unset, .unset] [(.ref b166), (.ref b166)]))
  refine own_st (fun _ kQ => XT.bipushV X222.here hx rfl (9 : Int32) (hb hby at_163) (by decide) kQ) ?_
  show own_Go p e below s _ _ _ (T222.setTop (mkF m 165 #[.val (.int p1), .val (.int p2), .val (.int p3), .val (.ref b5), .unset, .unset, .unset, .unset, .unset, .unset, .unset, .unset] [(.int (9 : Int32)), (.ref b166), (.ref b166)]))
  refine own_st (fun _ kQ => XT.iconstV X222.here hx rfl (0 : Int32) (hb hby at_165) (by decide) kQ) ?_
  show own_Go p e below s _ _ _ (T222.setTop (mkF m 166 #[.val (.int p1), .val (.int p2), .val (.int p3), .val (.ref b5), .unset, .unset, .unset, .unset, .unset, .unset, .unset, .unset] [(.int (0 : Int32)), (.int (9 : Int32)), (.ref b166), (.ref b166)]))
  obtain ⟨cl228, Ar228, kc228, S228, Nn228, H228, G228⟩ := id F224
  have hin228 : ¬ ((9 : Int32) < 0 ∨ cl228.slots.size ≤ ((9 : Int32) : Int32).toNatClampNeg) := inb_of S228 (by decide)
  obtain ⟨T228, h228, X228, e228, W228, st228⟩ := stI X222 hx hZ e222 Ar228 (j := (9 : Int32)) hin228 (g := (mkF m 166 #[.val (.int p1), .val (.int p2), .val (.int p3), .val (.ref b5), .unset, .unset, .unset, .unset, .unset, .unset, .unset, .unset] [(.int (0 : Int32)), (.int (9 : Int32)), (.ref b166), (.ref b166)])) rfl rfl (hb hby at_166)
  refine own_st st228 ?_
  have N229 := Fr.snoc X228 N223 g170
  have F230 : Arv Z h228 b166 k166 .int (17 : Int32) [(.int (3 : Int32)), (.int (4 : Int32)), (.int (1 : Int32)), (.int (0 : Int32)), (.int (0 : Int32)), (.int (0 : Int32)), (.int (0 : Int32)), (.int (0 : Int32)), (.int (0 : Int32)), (.int (0 : Int32)), (.int (0 : Int32)), (.int (0 : Int32)), (.int (0 : Int32)), (.int (0 : Int32)), (.int (0 : Int32)), (.int (0 : Int32)), (.int (0 : Int32))] (.int (0 : Int32)) := Arv.set Ar228 kc228 S228 Nn228 H228 G228 rfl W228 9 (by decide) (Nat.le_of_ble_eq_true rfl)
  have lt231 : b5 < h228.size := Nat.lt_of_lt_of_le lt225 (Nat.le_of_eq W228.size.symm)
  have lt232 : b166 < h228.size := Nat.lt_of_lt_of_le lt226 (Nat.le_of_eq W228.size.symm)
  have Zs233 : n0 ≤ h228.size := Nat.le_trans Zs227 (Nat.le_of_eq W228.size.symm)
  show own_Go p e below s _ _ _ (T228.setTop (mkF m 167 #[.val (.int p1), .val (.int p2), .val (.int p3), .val (.ref b5), .unset, .unset, .unset, .unset, .unset, .unset, .unset, .unset] [(.ref b166)]))
  refine own_st (fun _ kQ => XS.dup X228.here hx rfl (hb hby at_167) rfl rfl kQ) ?_
  show own_Go p e below s _ _ _ (T228.setTop (mkF m 168 #[.val (.int p1), .val (.int p2), .val (.int p3), .val (.ref b5), .unset, .unset, .unset, .unset, .unset, .unset, .unset, .unset] [(.ref b166), (.ref b166)]))
  refine own_st (fun _ kQ => XT.bipushV X228.here hx rfl (10 : Int32) (hb hby at_168) (by decide) kQ) ?_
  show own_Go p e below s _ _ _ (T228.setTop (mkF m 170 #[.val (.int p1), .val (.int p2), .val (.int p3), .val (.ref b5), .unset, .unset, .unset, .unset, .unset, .unset, .unset, .unset] [(.int (10 : Int32)), (.ref b166), (.ref b166)]))
  refine own_st (fun _ kQ => XT.iconstV X228.here hx rfl (0 : Int32) (hb hby at_170) (by decide) kQ) ?_
  show own_Go p e below s _ _ _ (T228.setTop (mkF m 171 #[.val (.int p1), .val (.int p2), .val (.int p3), .val (.ref b5), .unset, .unset, .unset, .unset, .unset, .unset, .unset, .unset] [(.int (0 : Int32)), (.int (10 : Int32)), (.ref b166), (.ref b166)]))
  obtain ⟨cl234, Ar234, kc234, S234, Nn234, H234, G234⟩ := id F230
  have hin234 : ¬ ((10 : Int32) < 0 ∨ cl234.slots.size ≤ ((10 : Int32) : Int32).toNatClampNeg) := inb_of S234 (by decide)
  obtain ⟨T234, h234, X234, e234, W234, st234⟩ := stI X228 hx hZ e228 Ar234 (j := (10 : Int32)) hin234 (g := (mkF m 171 #[.val (.int p1), .val (.int p2), .val (.int p3), .val (.ref b5), .unset, .unset, .unset, .unset, .unset, .unset, .unset, .unset] [(.int (0 : Int32)), (.int (10 : Int32)), (.ref b166), (.ref b166)])) rfl rfl (hb hby at_171)
  refine own_st st234 ?_
  have N235 := Fr.snoc X234 N229 g170
  have F236 : Arv Z h234 b166 k166 .int (17 : Int32) [(.int (3 : Int32)), (.int (4 : Int32)), (.int (1 : Int32)), (.int (0 : Int32)), (.int (0 : Int32)), (.int (0 : Int32)), (.int (0 : Int32)), (.int (0 : Int32)), (.int (0 : Int32)), (.int (0 : Int32)), (.int (0 : Int32)), (.int (0 : Int32)), (.int (0 : Int32)), (.int (0 : Int32)), (.int (0 : Int32)), (.int (0 : Int32)), (.int (0 : Int32))] (.int (0 : Int32)) := Arv.set Ar234 kc234 S234 Nn234 H234 G234 rfl W234 10 (by decide) (Nat.le_of_ble_eq_true rfl)
  have lt237 : b5 < h234.size := Nat.lt_of_lt_of_le lt231 (Nat.le_of_eq W234.size.symm)
  have lt238 : b166 < h234.size := Nat.lt_of_lt_of_le lt232 (Nat.le_of_eq W234.size.symm)
  have Zs239 : n0 ≤ h234.size := Nat.le_trans Zs233 (Nat.le_of_eq W234.size.symm)
  obtain ⟨Lp240, Xp240, Np240⟩ : ∃ L, Stand p l e room_1 s m #[(.int p1), (.int p2), (.int p3)] below meth c T234 L 2 34 ∧ Fr n0 L := ⟨_, X234, N235⟩
  show own_Go p e below s _ _ _ (T234.setTop (mkF m 172 #[.val (.int p1), .val (.int p2), .val (.int p3), .val (.ref b5), .unset, .unset, .unset, .unset, .unset, .unset, .unset, .unset] [(.ref b166)]))
  refine own_st (fun _ kQ => XS.dup Xp240.here hx rfl (hb hby at_172) rfl rfl kQ) ?_
  show own_Go p e below s _ _ _ (T234.setTop (mkF m 173 #[.val (.int p1), .val (.int p2), .val (.int p3), .val (.ref b5), .unset, .unset, .unset, .unset, .unset, .unset, .unset, .unset] [(.ref b166), (.ref b166)]))
  refine own_st (fun _ kQ => XT.bipushV Xp240.here hx rfl (11 : Int32) (hb hby at_173) (by decide) kQ) ?_
  show own_Go p e below s _ _ _ (T234.setTop (mkF m 175 #[.val (.int p1), .val (.int p2), .val (.int p3), .val (.ref b5), .unset, .unset, .unset, .unset, .unset, .unset, .unset, .unset] [(.int (11 : Int32)), (.ref b166), (.ref b166)]))
  refine own_st (fun _ kQ => XT.iconstV Xp240.here hx rfl (0 : Int32) (hb hby at_175) (by decide) kQ) ?_
  show own_Go p e below s _ _ _ (T234.setTop (mkF m 176 #[.val (.int p1), .val (.int p2), .val (.int p3), .val (.ref b5), .unset, .unset, .unset, .unset, .unset, .unset, .unset, .unset] [(.int (0 : Int32)), (.int (11 : Int32)), (.ref b166), (.ref b166)]))
  obtain ⟨cl241, Ar241, kc241, S241, Nn241, H241, G241⟩ := id F236
  have hin241 : ¬ ((11 : Int32) < 0 ∨ cl241.slots.size ≤ ((11 : Int32) : Int32).toNatClampNeg) := inb_of S241 (by decide)
  obtain ⟨T241, h241, X241, e241, W241, st241⟩ := stI Xp240 hx hZ e234 Ar241 (j := (11 : Int32)) hin241 (g := (mkF m 176 #[.val (.int p1), .val (.int p2), .val (.int p3), .val (.ref b5), .unset, .unset, .unset, .unset, .unset, .unset, .unset, .unset] [(.int (0 : Int32)), (.int (11 : Int32)), (.ref b166), (.ref b166)])) rfl rfl (hb hby at_176)
  refine own_st st241 ?_
  have N242 := Fr.snoc X241 Np240 g170
  have F243 : Arv Z h241 b166 k166 .int (17 : Int32) [(.int (3 : Int32)), (.int (4 : Int32)), (.int (1 : Int32)), (.int (0 : Int32)), (.int (0 : Int32)), (.int (0 : Int32)), (.int (0 : Int32)), (.int (0 : Int32)), (.int (0 : Int32)), (.int (0 : Int32)), (.int (0 : Int32)), (.int (0 : Int32)), (.int (0 : Int32)), (.int (0 : Int32)), (.int (0 : Int32)), (.int (0 : Int32)), (.int (0 : Int32))] (.int (0 : Int32)) := Arv.set Ar241 kc241 S241 Nn241 H241 G241 rfl W241 11 (by decide) (Nat.le_of_ble_eq_true rfl)
  have lt244 : b5 < h241.size := Nat.lt_of_lt_of_le lt237 (Nat.le_of_eq W241.size.symm)
  have lt245 : b166 < h241.size := Nat.lt_of_lt_of_le lt238 (Nat.le_of_eq W241.size.symm)
  have Zs246 : n0 ≤ h241.size := Nat.le_trans Zs239 (Nat.le_of_eq W241.size.symm)
  show own_Go p e below s _ _ _ (T241.setTop (mkF m 177 #[.val (.int p1), .val (.int p2), .val (.int p3), .val (.ref b5), .unset, .unset, .unset, .unset, .unset, .unset, .unset, .unset] [(.ref b166)]))
  refine own_st (fun _ kQ => XS.dup X241.here hx rfl (hb hby at_177) rfl rfl kQ) ?_
  show own_Go p e below s _ _ _ (T241.setTop (mkF m 178 #[.val (.int p1), .val (.int p2), .val (.int p3), .val (.ref b5), .unset, .unset, .unset, .unset, .unset, .unset, .unset, .unset] [(.ref b166), (.ref b166)]))
  refine own_st (fun _ kQ => XT.bipushV X241.here hx rfl (12 : Int32) (hb hby at_178) (by decide) kQ) ?_
  show own_Go p e below s _ _ _ (T241.setTop (mkF m 180 #[.val (.int p1), .val (.int p2), .val (.int p3), .val (.ref b5), .unset, .unset, .unset, .unset, .unset, .unset, .unset, .unset] [(.int (12 : Int32)), (.ref b166), (.ref b166)]))
  refine own_st (fun _ kQ => XT.iconstV X241.here hx rfl (0 : Int32) (hb hby at_180) (by decide) kQ) ?_
  show own_Go p e below s _ _ _ (T241.setTop (mkF m 181 #[.val (.int p1), .val (.int p2), .val (.int p3), .val (.ref b5), .unset, .unset, .unset, .unset, .unset, .unset, .unset, .unset] [(.int (0 : Int32)), (.int (12 : Int32)), (.ref b166), (.ref b166)]))
  obtain ⟨cl247, Ar247, kc247, S247, Nn247, H247, G247⟩ := id F243
  have hin247 : ¬ ((12 : Int32) < 0 ∨ cl247.slots.size ≤ ((12 : Int32) : Int32).toNatClampNeg) := inb_of S247 (by decide)
  obtain ⟨T247, h247, X247, e247, W247, st247⟩ := stI X241 hx hZ e241 Ar247 (j := (12 : Int32)) hin247 (g := (mkF m 181 #[.val (.int p1), .val (.int p2), .val (.int p3), .val (.ref b5), .unset, .unset, .unset, .unset, .unset, .unset, .unset, .unset] [(.int (0 : Int32)), (.int (12 : Int32)), (.ref b166), (.ref b166)])) rfl rfl (hb hby at_181)
  refine own_st st247 ?_
  have N248 := Fr.snoc X247 N242 g170
  have F249 : Arv Z h247 b166 k166 .int (17 : Int32) [(.int (3 : Int32)), (.int (4 : Int32)), (.int (1 : Int32)), (.int (0 : Int32)), (.int (0 : Int32)), (.int (0 : Int32)), (.int (0 : Int32)), (.int (0 : Int32)), (.int (0 : Int32)), (.int (0 : Int32)), (.int (0 : Int32)), (.int (0 : Int32)), (.int (0 : Int32)), (.int (0 : Int32)), (.int (0 : Int32)), (.int (0 : Int32)), (.int (0 : Int32))] (.int (0 : Int32)) := Arv.set Ar247 kc247 S247 Nn247 H247 G247 rfl W247 12 (by decide) (Nat.le_of_ble_eq_true rfl)
  have lt250 : b5 < h247.size := Nat.lt_of_lt_of_le lt244 (Nat.le_of_eq W247.size.symm)
  have lt251 : b166 < h247.size := Nat.lt_of_lt_of_le lt245 (Nat.le_of_eq W247.size.symm)
  have Zs252 : n0 ≤ h247.size := Nat.le_trans Zs246 (Nat.le_of_eq W247.size.symm)
  show own_Go p e below s _ _ _ (T247.setTop (mkF m 182 #[.val (.int p1), .val (.int p2), .val (.int p3), .val (.ref b5), .unset, .unset, .unset, .unset, .unset, .unset, .unset, .unset] [(.ref b166)]))
  refine own_st (fun _ kQ => XS.dup X247.here hx rfl (hb hby at_182) rfl rfl kQ) ?_
  show own_Go p e below s _ _ _ (T247.setTop (mkF m 183 #[.val (.int p1), .val (.int p2), .val (.int p3), .val (.ref b5), .unset, .unset, .unset, .unset, .unset, .unset, .unset, .unset] [(.ref b166), (.ref b166)]))
  refine own_st (fun _ kQ => XT.bipushV X247.here hx rfl (13 : Int32) (hb hby at_183) (by decide) kQ) ?_
  show own_Go p e below s _ _ _ (T247.setTop (mkF m 185 #[.val (.int p1), .val (.int p2), .val (.int p3), .val (.ref b5), .unset, .unset, .unset, .unset, .unset, .unset, .unset, .unset] [(.int (13 : Int32)), (.ref b166), (.ref b166)]))
  refine own_st (fun _ kQ => XT.iconstV X247.here hx rfl (0 : Int32) (hb hby at_185) (by decide) kQ) ?_
  show own_Go p e below s _ _ _ (T247.setTop (mkF m 186 #[.val (.int p1), .val (.int p2), .val (.int p3), .val (.ref b5), .unset, .unset, .unset, .unset, .unset, .unset, .unset, .unset] [(.int (0 : Int32)), (.int (13 : Int32)), (.ref b166), (.ref b166)]))
  obtain ⟨cl253, Ar253, kc253, S253, Nn253, H253, G253⟩ := id F249
  have hin253 : ¬ ((13 : Int32) < 0 ∨ cl253.slots.size ≤ ((13 : Int32) : Int32).toNatClampNeg) := inb_of S253 (by decide)
  obtain ⟨T253, h253, X253, e253, W253, st253⟩ := stI X247 hx hZ e247 Ar253 (j := (13 : Int32)) hin253 (g := (mkF m 186 #[.val (.int p1), .val (.int p2), .val (.int p3), .val (.ref b5), .unset, .unset, .unset, .unset, .unset, .unset, .unset, .unset] [(.int (0 : Int32)), (.int (13 : Int32)), (.ref b166), (.ref b166)])) rfl rfl (hb hby at_186)
  refine own_st st253 ?_
  have N254 := Fr.snoc X253 N248 g170
  have F255 : Arv Z h253 b166 k166 .int (17 : Int32) [(.int (3 : Int32)), (.int (4 : Int32)), (.int (1 : Int32)), (.int (0 : Int32)), (.int (0 : Int32)), (.int (0 : Int32)), (.int (0 : Int32)), (.int (0 : Int32)), (.int (0 : Int32)), (.int (0 : Int32)), (.int (0 : Int32)), (.int (0 : Int32)), (.int (0 : Int32)), (.int (0 : Int32)), (.int (0 : Int32)), (.int (0 : Int32)), (.int (0 : Int32))] (.int (0 : Int32)) := Arv.set Ar253 kc253 S253 Nn253 H253 G253 rfl W253 13 (by decide) (Nat.le_of_ble_eq_true rfl)
  have lt256 : b5 < h253.size := Nat.lt_of_lt_of_le lt250 (Nat.le_of_eq W253.size.symm)
  have lt257 : b166 < h253.size := Nat.lt_of_lt_of_le lt251 (Nat.le_of_eq W253.size.symm)
  have Zs258 : n0 ≤ h253.size := Nat.le_trans Zs252 (Nat.le_of_eq W253.size.symm)
  show own_Go p e below s _ _ _ (T253.setTop (mkF m 187 #[.val (.int p1), .val (.int p2), .val (.int p3), .val (.ref b5), .unset, .unset, .unset, .unset, .unset, .unset, .unset, .unset] [(.ref b166)]))
  refine own_st (fun _ kQ => XS.dup X253.here hx rfl (hb hby at_187) rfl rfl kQ) ?_
  show own_Go p e below s _ _ _ (T253.setTop (mkF m 188 #[.val (.int p1), .val (.int p2), .val (.int p3), .val (.ref b5), .unset, .unset, .unset, .unset, .unset, .unset, .unset, .unset] [(.ref b166), (.ref b166)]))
  refine own_st (fun _ kQ => XT.bipushV X253.here hx rfl (14 : Int32) (hb hby at_188) (by decide) kQ) ?_
  show own_Go p e below s _ _ _ (T253.setTop (mkF m 190 #[.val (.int p1), .val (.int p2), .val (.int p3), .val (.ref b5), .unset, .unset, .unset, .unset, .unset, .unset, .unset, .unset] [(.int (14 : Int32)), (.ref b166), (.ref b166)]))
  refine own_st (fun _ kQ => XT.iconstV X253.here hx rfl (0 : Int32) (hb hby at_190) (by decide) kQ) ?_
  show own_Go p e below s _ _ _ (T253.setTop (mkF m 191 #[.val (.int p1), .val (.int p2), .val (.int p3), .val (.ref b5), .unset, .unset, .unset, .unset, .unset, .unset, .unset, .unset] [(.int (0 : Int32)), (.int (14 : Int32)), (.ref b166), (.ref b166)]))
  obtain ⟨cl259, Ar259, kc259, S259, Nn259, H259, G259⟩ := id F255
  have hin259 : ¬ ((14 : Int32) < 0 ∨ cl259.slots.size ≤ ((14 : Int32) : Int32).toNatClampNeg) := inb_of S259 (by decide)
  obtain ⟨T259, h259, X259, e259, W259, st259⟩ := stI X253 hx hZ e253 Ar259 (j := (14 : Int32)) hin259 (g := (mkF m 191 #[.val (.int p1), .val (.int p2), .val (.int p3), .val (.ref b5), .unset, .unset, .unset, .unset, .unset, .unset, .unset, .unset] [(.int (0 : Int32)), (.int (14 : Int32)), (.ref b166), (.ref b166)])) rfl rfl (hb hby at_191)
  refine own_st st259 ?_
  have N260 := Fr.snoc X259 N254 g170
  have F261 : Arv Z h259 b166 k166 .int (17 : Int32) [(.int (3 : Int32)), (.int (4 : Int32)), (.int (1 : Int32)), (.int (0 : Int32)), (.int (0 : Int32)), (.int (0 : Int32)), (.int (0 : Int32)), (.int (0 : Int32)), (.int (0 : Int32)), (.int (0 : Int32)), (.int (0 : Int32)), (.int (0 : Int32)), (.int (0 : Int32)), (.int (0 : Int32)), (.int (0 : Int32)), (.int (0 : Int32)), (.int (0 : Int32))] (.int (0 : Int32)) := Arv.set Ar259 kc259 S259 Nn259 H259 G259 rfl W259 14 (by decide) (Nat.le_of_ble_eq_true rfl)
  have lt262 : b5 < h259.size := Nat.lt_of_lt_of_le lt256 (Nat.le_of_eq W259.size.symm)
  have lt263 : b166 < h259.size := Nat.lt_of_lt_of_le lt257 (Nat.le_of_eq W259.size.symm)
  have Zs264 : n0 ≤ h259.size := Nat.le_trans Zs258 (Nat.le_of_eq W259.size.symm)
  obtain ⟨Lp265, Xp265, Np265⟩ : ∃ L, Stand p l e room_1 s m #[(.int p1), (.int p2), (.int p3)] below meth c T259 L 2 34 ∧ Fr n0 L := ⟨_, X259, N260⟩
  show own_Go p e below s _ _ _ (T259.setTop (mkF m 192 #[.val (.int p1), .val (.int p2), .val (.int p3), .val (.ref b5), .unset, .unset, .unset, .unset, .unset, .unset, .unset, .unset] [(.ref b166)]))
  refine own_st (fun _ kQ => XS.dup Xp265.here hx rfl (hb hby at_192) rfl rfl kQ) ?_
  show own_Go p e below s _ _ _ (T259.setTop (mkF m 193 #[.val (.int p1), .val (.int p2), .val (.int p3), .val (.ref b5), .unset, .unset, .unset, .unset, .unset, .unset, .unset, .unset] [(.ref b166), (.ref b166)]))
  refine own_st (fun _ kQ => XT.bipushV Xp265.here hx rfl (15 : Int32) (hb hby at_193) (by decide) kQ) ?_
  show own_Go p e below s _ _ _ (T259.setTop (mkF m 195 #[.val (.int p1), .val (.int p2), .val (.int p3), .val (.ref b5), .unset, .unset, .unset, .unset, .unset, .unset, .unset, .unset] [(.int (15 : Int32)), (.ref b166), (.ref b166)]))
  refine own_st (fun _ kQ => XT.iconstV Xp265.here hx rfl (0 : Int32) (hb hby at_195) (by decide) kQ) ?_
  show own_Go p e below s _ _ _ (T259.setTop (mkF m 196 #[.val (.int p1), .val (.int p2), .val (.int p3), .val (.ref b5), .unset, .unset, .unset, .unset, .unset, .unset, .unset, .unset] [(.int (0 : Int32)), (.int (15 : Int32)), (.ref b166), (.ref b166)]))
  obtain ⟨cl266, Ar266, kc266, S266, Nn266, H266, G266⟩ := id F261
  have hin266 : ¬ ((15 : Int32) < 0 ∨ cl266.slots.size ≤ ((15 : Int32) : Int32).toNatClampNeg) := inb_of S266 (by decide)
  obtain ⟨T266, h266, X266, e266, W266, st266⟩ := stI Xp265 hx hZ e259 Ar266 (j := (15 : Int32)) hin266 (g := (mkF m 196 #[.val (.int p1), .val (.int p2), .val (.int p3), .val (.ref b5), .unset, .unset, .unset, .unset, .unset, .unset, .unset, .unset] [(.int (0 : Int32)), (.int (15 : Int32)), (.ref b166), (.ref b166)])) rfl rfl (hb hby at_196)
  refine own_st st266 ?_
  have N267 := Fr.snoc X266 Np265 g170
  have F268 : Arv Z h266 b166 k166 .int (17 : Int32) [(.int (3 : Int32)), (.int (4 : Int32)), (.int (1 : Int32)), (.int (0 : Int32)), (.int (0 : Int32)), (.int (0 : Int32)), (.int (0 : Int32)), (.int (0 : Int32)), (.int (0 : Int32)), (.int (0 : Int32)), (.int (0 : Int32)), (.int (0 : Int32)), (.int (0 : Int32)), (.int (0 : Int32)), (.int (0 : Int32)), (.int (0 : Int32)), (.int (0 : Int32))] (.int (0 : Int32)) := Arv.set Ar266 kc266 S266 Nn266 H266 G266 rfl W266 15 (by decide) (Nat.le_of_ble_eq_true rfl)
  have lt269 : b5 < h266.size := Nat.lt_of_lt_of_le lt262 (Nat.le_of_eq W266.size.symm)
  have lt270 : b166 < h266.size := Nat.lt_of_lt_of_le lt263 (Nat.le_of_eq W266.size.symm)
  have Zs271 : n0 ≤ h266.size := Nat.le_trans Zs264 (Nat.le_of_eq W266.size.symm)
  show own_Go p e below s _ _ _ (T266.setTop (mkF m 197 #[.val (.int p1), .val (.int p2), .val (.int p3), .val (.ref b5), .unset, .unset, .unset, .unset, .unset, .unset, .unset, .unset] [(.ref b166)]))
  refine own_st (fun _ kQ => XS.dup X266.here hx rfl (hb hby at_197) rfl rfl kQ) ?_
  show own_Go p e below s _ _ _ (T266.setTop (mkF m 198 #[.val (.int p1), .val (.int p2), .val (.int p3), .val (.ref b5), .unset, .unset, .unset, .unset, .unset, .unset, .unset, .unset] [(.ref b166), (.ref b166)]))
  refine own_st (fun _ kQ => XT.bipushV X266.here hx rfl (16 : Int32) (hb hby at_198) (by decide) kQ) ?_
  show own_Go p e below s _ _ _ (T266.setTop (mkF m 200 #[.val (.int p1), .val (.int p2), .val (.int p3), .val (.ref b5), .unset, .unset, .unset, .unset, .unset, .unset, .unset, .unset] [(.int (16 : Int32)), (.ref b166), (.ref b166)]))
  refine own_st (fun _ kQ => XT.iconstV X266.here hx rfl (0 : Int32) (hb hby at_200) (by decide) kQ) ?_
  show own_Go p e below s _ _ _ (T266.setTop (mkF m 201 #[.val (.int p1), .val (.int p2), .val (.int p3), .val (.ref b5), .unset, .unset, .unset, .unset, .unset, .unset, .unset, .unset] [(.int (0 : Int32)), (.int (16 : Int32)), (.ref b166), (.ref b166)]))
  obtain ⟨cl272, Ar272, kc272, S272, Nn272, H272, G272⟩ := id F268
  have hin272 : ¬ ((16 : Int32) < 0 ∨ cl272.slots.size ≤ ((16 : Int32) : Int32).toNatClampNeg) := inb_of S272 (by decide)
  obtain ⟨T272, h272, X272, e272, W272, st272⟩ := stI X266 hx hZ e266 Ar272 (j := (16 : Int32)) hin272 (g := (mkF m 201 #[.val (.int p1), .val (.int p2), .val (.int p3), .val (.ref b5), .unset, .unset, .unset, .unset, .unset, .unset, .unset, .unset] [(.int (0 : Int32)), (.int (16 : Int32)), (.ref b166), (.ref b166)])) rfl rfl (hb hby at_201)
  refine own_st st272 ?_
  have N273 := Fr.snoc X272 N267 g170
  have F274 : Arv Z h272 b166 k166 .int (17 : Int32) [(.int (3 : Int32)), (.int (4 : Int32)), (.int (1 : Int32)), (.int (0 : Int32)), (.int (0 : Int32)), (.int (0 : Int32)), (.int (0 : Int32)), (.int (0 : Int32)), (.int (0 : Int32)), (.int (0 : Int32)), (.int (0 : Int32)), (.int (0 : Int32)), (.int (0 : Int32)), (.int (0 : Int32)), (.int (0 : Int32)), (.int (0 : Int32)), (.int (0 : Int32))] (.int (0 : Int32)) := Arv.set Ar272 kc272 S272 Nn272 H272 G272 rfl W272 16 (by decide) (Nat.le_of_ble_eq_true rfl)
  have lt275 : b5 < h272.size := Nat.lt_of_lt_of_le lt269 (Nat.le_of_eq W272.size.symm)
  have lt276 : b166 < h272.size := Nat.lt_of_lt_of_le lt270 (Nat.le_of_eq W272.size.symm)
  have Zs277 : n0 ≤ h272.size := Nat.le_trans Zs271 (Nat.le_of_eq W272.size.symm)
  show own_Go p e below s _ _ _ (T272.setTop (mkF m 202 #[.val (.int p1), .val (.int p2), .val (.int p3), .val (.ref b5), .unset, .unset, .unset, .unset, .unset, .unset, .unset, .unset] [(.ref b166)]))
  refine own_st (fun _ kQ => XS.astore X272.here hx rfl (hb hby at_202) rfl rfl (l' := #[.val (.int p1), .val (.int p2), .val (.int p3), .val (.ref b5), .val (.ref b166), .unset, .unset, .unset, .unset, .unset, .unset, .unset]) rfl kQ) ?_
  show own_Go p e below s _ _ _ (T272.setTop (mkF m 204 #[.val (.int p1), .val (.int p2), .val (.int p3), .val (.ref b5), .val (.ref b166), .unset, .unset, .unset, .unset, .unset, .unset, .unset] []))
  refine own_st (fun _ kQ => XT.bipushV X272.here hx rfl (17 : Int32) (hb hby at_204) (by decide) kQ) ?_
  show own_Go p e below s _ _ _ (T272.setTop (mkF m 206 #[.val (.int p1), .val (.int p2), .val (.int p3), .val (.ref b5), .val (.ref b166), .unset, .unset, .unset, .unset, .unset, .unset, .unset] [(.int (17 : Int32))]))
  obtain ⟨T278, h278, k278, X278, e278, E278, A278, Ea278, st278⟩ := newPE X272 hx hZ (aty := .int) (hw _ (List.mem_of_getElem? (i := 38) rfl)) e272 (g := (mkF m 206 #[.val (.int p1), .val (.int p2), .val (.int p3), .val (.ref b5), .val (.ref b166), .unset, .unset, .unset, .unset, .unset, .unset, .unset] [(.int (17 : Int32))])) rfl (hb hby at_206) rfl (by decide) (cap := 17) (by decide) (by decide) (by decide) (by decide) (ad := "[I") (by decide +kernel)
  obtain ⟨b278, g278⟩ : ∃ z, z = h272.size := ⟨_, rfl⟩
  rw [← g278] at A278 Ea278 st278
  refine own_st st278 ?_
  have lt279 : b5 < h278.size := Nat.lt_of_lt_of_le lt275 E278.1
  have lt280 : b166 < h278.size := Nat.lt_of_lt_of_le lt276 E278.1
  have Zs281 : n0 ≤ h278.size := Nat.le_trans Zs277 E278.1
  have ne282 : b5 ≠ b278 := Nat.ne_of_lt (Nat.lt_of_lt_of_le lt275 (Nat.le_of_eq g278.symm))
  have ne283 : b166 ≠ b278 := Nat.ne_of_lt (Nat.lt_of_lt_of_le lt276 (Nat.le_of_eq g278.symm))
  have g284 : n0 ≤ b278 := Nat.le_trans Zs277 (Nat.le_of_eq g278.symm)
  have F285 : Arv Z h278 b278 k278 .int (17 : Int32) [(.int (0 : Int32)), (.int (0 : Int32)), (.int (0 : Int32)), (.int (0 : Int32)), (.int (0 : Int32)), (.int (0 : Int32)), (.int (0 : Int32)), (.int (0 : Int32)), (.int (0 : Int32)), (.int (0 : Int32)), (.int (0 : Int32)), (.int (0 : Int32)), (.int (0 : Int32)), (.int (0 : Int32)), (.int (0 : Int32)), (.int (0 : Int32)), (.int (0 : Int32))] (.int (0 : Int32)) := (Arv.new A278 (by decide)).pad (fun i => own_pad 17 _ i)
  show own_Go p e below s _ _ _ (T278.setTop (mkF m 208 #[.val (.int p1), .val (.int p2), .val (.int p3), .val (.ref b5), .val (.ref b166), .unset, .unset, .unset, .unset, .unset, .unset, .unset] [(.ref b278)]))
  refine own_st (fun _ kQ => XS.dup X278.here hx rfl (hb hby at_208) rfl rfl kQ) ?_
  show own_Go p e below s _ _ _ (T278.setTop (mkF m 209 #[.val (.int p1), .val (.int p2), .val (.int p3), .val (.ref b5), .val (.ref b166), .unset, .unset, .unset, .unset, .unset, .unset, .unset] [(.ref b278), (.ref b278)]))
  refine own_st (fun _ kQ => XT.iconstV X278.here hx rfl (0 : Int32) (hb hby at_209) (by decide) kQ) ?_
  show own_Go p e below s _ _ _ (T278.setTop (mkF m 210 #[.val (.int p1), .val (.int p2), .val (.int p3), .val (.ref b5), .val (.ref b166), .unset, .unset, .unset, .unset, .unset, .unset, .unset] [(.int (0 : Int32)), (.ref b278), (.ref b278)]))
  refine own_st (fun _ kQ => XT.bipushV X278.here hx rfl (7 : Int32) (hb hby at_210) (by decide) kQ) ?_
  show own_Go p e below s _ _ _ (T278.setTop (mkF m 212 #[.val (.int p1), .val (.int p2), .val (.int p3), .val (.ref b5), .val (.ref b166), .unset, .unset, .unset, .unset, .unset, .unset, .unset] [(.int (7 : Int32)), (.int (0 : Int32)), (.ref b278), (.ref b278)]))
  obtain ⟨cl286, Ar286, kc286, S286, Nn286, H286, G286⟩ := id F285
  have hin286 : ¬ ((0 : Int32) < 0 ∨ cl286.slots.size ≤ ((0 : Int32) : Int32).toNatClampNeg) := inb_of S286 (by decide)
  obtain ⟨T286, h286, X286, e286, W286, st286⟩ := stI X278 hx hZ e278 Ar286 (j := (0 : Int32)) hin286 (g := (mkF m 212 #[.val (.int p1), .val (.int p2), .val (.int p3), .val (.ref b5), .val (.ref b166), .unset, .unset, .unset, .unset, .unset, .unset, .unset] [(.int (7 : Int32)), (.int (0 : Int32)), (.ref b278), (.ref b278)])) rfl rfl (hb hby at_212)
  refine own_st st286 ?_
  have N287 := Fr.snoc X286 N273 g284
  have F288 : Arv Z h286 b278 k278 .int (17 : Int32) [(.int (7 : Int32)), (.int (0 : Int32)), (.int (0 : Int32)), (.int (0 : Int32)), (.int (0 : Int32)), (.int (0 : Int32)), (.int (0 : Int32)), (.int (0 : Int32)), (.int (0 : Int32)), (.int (0 : Int32)), (.int (0 : Int32)), (.int (0 : Int32)), (.int (0 : Int32)), (.int (0 : Int32)), (.int (0 : Int32)), (.int (0 : Int32)), (.int (0 : Int32))] (.int (0 : Int32)) := Arv.set Ar286 kc286 S286 Nn286 H286 G286 rfl W286 0 (by decide) (Nat.le_of_ble_eq_true rfl)
  have lt289 : b5 < h286.size := Nat.lt_of_lt_of_le lt279 (Nat.le_of_eq W286.size.symm)
  have lt290 : b166 < h286.size := Nat.lt_of_lt_of_le lt280 (Nat.le_of_eq W286.size.symm)
  have lt291 : b278 < h286.size := Nat.lt_of_lt_of_le A278.lt (Nat.le_of_eq W286.size.symm)
  have Zs292 : n0 ≤ h286.size := Nat.le_trans Zs281 (Nat.le_of_eq W286.size.symm)
  show own_Go p e below s _ _ _ (T286.setTop (mkF m 213 #[.val (.int p1), .val (.int p2), .val (.int p3), .val (.ref b5), .val (.ref b166), .unset, .unset, .unset, .unset, .unset, .unset, .unset] [(.ref b278)]))
  refine own_st (fun _ kQ => XS.dup X286.here hx rfl (hb hby at_213) rfl rfl kQ) ?_
  show own_Go p e below s _ _ _ (T286.setTop (mkF m 214 #[.val (.int p1), .val (.int p2), .val (.int p3), .val (.ref b5), .val (.ref b166), .unset, .unset, .unset, .unset, .unset, .unset, .unset] [(.ref b278), (.ref b278)]))
  refine own_st (fun _ kQ => XT.iconstV X286.here hx rfl (1 : Int32) (hb hby at_214) (by decide) kQ) ?_
  show own_Go p e below s _ _ _ (T286.setTop (mkF m 215 #[.val (.int p1), .val (.int p2), .val (.int p3), .val (.ref b5), .val (.ref b166), .unset, .unset, .unset, .unset, .unset, .unset, .unset] [(.int (1 : Int32)), (.ref b278), (.ref b278)]))
  refine own_st (fun _ kQ => XT.bipushV X286.here hx rfl (11 : Int32) (hb hby at_215) (by decide) kQ) ?_
  show own_Go p e below s _ _ _ (T286.setTop (mkF m 217 #[.val (.int p1), .val (.int p2), .val (.int p3), .val (.ref b5), .val (.ref b166), .unset, .unset, .unset, .unset, .unset, .unset, .unset] [(.int (11 : Int32)), (.int (1 : Int32)), (.ref b278), (.ref b278)]))
  obtain ⟨cl293, Ar293, kc293, S293, Nn293, H293, G293⟩ := id F288
  have hin293 : ¬ ((1 : Int32) < 0 ∨ cl293.slots.size ≤ ((1 : Int32) : Int32).toNatClampNeg) := inb_of S293 (by decide)
  obtain ⟨T293, h293, X293, e293, W293, st293⟩ := stI X286 hx hZ e286 Ar293 (j := (1 : Int32)) hin293 (g := (mkF m 217 #[.val (.int p1), .val (.int p2), .val (.int p3), .val (.ref b5), .val (.ref b166), .unset, .unset, .unset, .unset, .unset, .unset, .unset] [(.int (11 : Int32)), (.int (1 : Int32)), (.ref b278), (.ref b278)])) rfl rfl (hb hby at_217)
  refine own_st st293 ?_
  have N294 := Fr.snoc X293 N287 g284
  have F295 : Arv Z h293 b278 k278 .int (17 : Int32) [(.int (7 : Int32)), (.int (11 : Int32)), (.int (0 : Int32)), (.int (0 : Int32)), (.int (0 : Int32)), (.int (0 : Int32)), (.int (0 : Int32)), (.int (0 : Int32)), (.int (0 : Int32)), (.int (0 : Int32)), (.int (0 : Int32)), (.int (0 : Int32)), (.int (0 : Int32)), (.int (0 : Int32)), (.int (0 : Int32)), (.int (0 : Int32)), (.int (0 : Int32))] (.int (0 : Int32)) := Arv.set Ar293 kc293 S293 Nn293 H293 G293 rfl W293 1 (by decide) (Nat.le_of_ble_eq_true rfl)
  have lt296 : b5 < h293.size := Nat.lt_of_lt_of_le lt289 (Nat.le_of_eq W293.size.symm)
  have lt297 : b166 < h293.size := Nat.lt_of_lt_of_le lt290 (Nat.le_of_eq W293.size.symm)
  have lt298 : b278 < h293.size := Nat.lt_of_lt_of_le lt291 (Nat.le_of_eq W293.size.symm)
  have Zs299 : n0 ≤ h293.size := Nat.le_trans Zs292 (Nat.le_of_eq W293.size.symm)
  obtain ⟨Lp300, Xp300, Np300⟩ : ∃ L, Stand p l e room_1 s m #[(.int p1), (.int p2), (.int p3)] below meth c T293 L 3 51 ∧ Fr n0 L := ⟨_, X293, N294⟩
  show own_Go p e below s _ _ _ (T293.setTop (mkF m 218 #[.val (.int p1), .val (.int p2), .val (.int p3), .val (.ref b5), .val (.ref b166), .unset, .unset, .unset, .unset, .unset, .unset, .unset] [(.ref b278)]))
  refine own_st (fun _ kQ => XS.dup Xp300.here hx rfl (hb hby at_218) rfl rfl kQ) ?_
  show own_Go p e below s _ _ _ (T293.setTop (mkF m 219 #[.val (.int p1), .val (.int p2), .val (.int p3), .val (.ref b5), .val (.ref b166), .unset, .unset, .unset, .unset, .unset, .unset, .unset] [(.ref b278), (.ref b278)]))
  refine own_st (fun _ kQ => XT.iconstV Xp300.here hx rfl (2 : Int32) (hb hby at_219) (by decide) kQ) ?_
  show own_Go p e below s _ _ _ (T293.setTop (mkF m 220 #[.val (.int p1), .val (.int p2), .val (.int p3), .val (.ref b5), .val (.ref b166), .unset, .unset, .unset, .unset, .unset, .unset, .unset] [(.int (2 : Int32)), (.ref b278), (.ref b278)]))
  refine own_st (fun _ kQ => XT.iconstV Xp300.here hx rfl (2 : Int32) (hb hby at_220) (by decide) kQ) ?_
  show own_Go p e below s _ _ _ (T293.setTop (mkF m 221 #[.val (.int p1), .val (.int p2), .val (.int p3), .val (.ref b5), .val (.ref b166), .unset, .unset, .unset, .unset, .unset, .unset, .unset] [(.int (2 : Int32)), (.int (2 : Int32)), (.ref b278), (.ref b278)]))
  obtain ⟨cl301, Ar301, kc301, S301, Nn301, H301, G301⟩ := id F295
  have hin301 : ¬ ((2 : Int32) < 0 ∨ cl301.slots.size ≤ ((2 : Int32) : Int32).toNatClampNeg) := inb_of S301 (by decide)
  obtain ⟨T301, h301, X301, e301, W301, st301⟩ := stI Xp300 hx hZ e293 Ar301 (j := (2 : Int32)) hin301 (g := (mkF m 221 #[.val (.int p1), .val (.int p2), .val (.int p3), .val (.ref b5), .val (.ref b166), .unset, .unset, .unset, .unset, .unset, .unset, .unset] [(.int (2 : Int32)), (.int (2 : Int32)), (.ref b278), (.ref b278)])) rfl rfl (hb hby at_221)
  refine own_st st301 ?_
  have N302 := Fr.snoc X301 Np300 g284
  have F303 : Arv Z h301 b278 k278 .int (17 : Int32) [(.int (7 : Int32)), (.int (11 : Int32)), (.int (2 : Int32)), (.int (0 : Int32)), (.int (0 : Int32)), (.int (0 : Int32)), (.int (0 : Int32)), (.int (0 : Int32)), (.int (0 : Int32)), (.int (0 : Int32)), (.int (0 : Int32)), (.int (0 : Int32)), (.int (0 : Int32)), (.int (0 : Int32)), (.int (0 : Int32)), (.int (0 : Int32)), (.int (0 : Int32))] (.int (0 : Int32)) := Arv.set Ar301 kc301 S301 Nn301 H301 G301 rfl W301 2 (by decide) (Nat.le_of_ble_eq_true rfl)
  have lt304 : b5 < h301.size := Nat.lt_of_lt_of_le lt296 (Nat.le_of_eq W301.size.symm)
  have lt305 : b166 < h301.size := Nat.lt_of_lt_of_le lt297 (Nat.le_of_eq W301.size.symm)
  have lt306 : b278 < h301.size := Nat.lt_of_lt_of_le lt298 (Nat.le_of_eq W301.size.symm)
  have Zs307 : n0 ≤ h301.size := Nat.le_trans Zs299 (Nat.le_of_eq W301.size.symm)
  show own_Go p e below s _ _ _ (T301.setTop (mkF m 222 #[.val (.int p1), .val (.int p2), .val (.int p3), .val (.ref b5), .val (.ref b166), .unset, .unset, .unset, .unset, .unset, .unset, .unset] [(.ref b278)]))
  refine own_st (fun _ kQ => XS.dup X301.here hx rfl (hb hby at_222) rfl rfl kQ) ?_
  show own_Go p e below s _ _ _ (T301.setTop (mkF m 223 #[.val (.int p1), .val (.int p2), .val (.int p3), .val (.ref b5), .val (.ref b166), .unset, .unset, .unset, .unset, .unset, .unset, .unset] [(.ref b278), (.ref b278)]))
  refine own_st (fun _ kQ => XT.iconstV X301.here hx rfl (3 : Int32) (hb hby at_223) (by decide) kQ) ?_
  show own_Go p e below s _ _ _ (T301.setTop (mkF m 224 #[.val (.int p1), .val (.int p2), .val (.int p3), .val (.ref b5), .val (.ref b166), .unset, .unset, .unset, .unset, .unset, .unset, .unset] [(.int (3 : Int32)), (.ref b278), (.ref b278)]))
  refine own_st (fun _ kQ => XT.iconstV X301.here hx rfl (4 : Int32) (hb hby at_224) (by decide) kQ) ?_
  show own_Go p e below s _ _ _ (T301.setTop (mkF m 225 #[.val (.int p1), .val (.int p2), .val (.int p3), .val (.ref b5), .val (.ref b166), .unset, .unset, .unset, .unset, .unset, .unset, .unset] [(.int (4 : Int32)), (.int (3 : Int32)), (.ref b278), (.ref b278)]))
  obtain ⟨cl308, Ar308, kc308, S308, Nn308, H308, G308⟩ := id F303
  have hin308 : ¬ ((3 : Int32) < 0 ∨ cl308.slots.size ≤ ((3 : Int32) : Int32).toNatClampNeg) := inb_of S308 (by decide)
  obtain ⟨T308, h308, X308, e308, W308, st308⟩ := stI X301 hx hZ e301 Ar308 (j := (3 : Int32)) hin308 (g := (mkF m 225 #[.val (.int p1), .val (.int p2), .val (.int p3), .val (.ref b5), .val (.ref b166), .unset, .unset, .unset, .unset, .unset, .unset, .unset] [(.int (4 : Int32)), (.int (3 : Int32)), (.ref b278), (.ref b278)])) rfl rfl (hb hby at_225)
  refine own_st st308 ?_
  have N309 := Fr.snoc X308 N302 g284
  have F310 : Arv Z h308 b278 k278 .int (17 : Int32) [(.int (7 : Int32)), (.int (11 : Int32)), (.int (2 : Int32)), (.int (4 : Int32)), (.int (0 : Int32)), (.int (0 : Int32)), (.int (0 : Int32)), (.int (0 : Int32)), (.int (0 : Int32)), (.int (0 : Int32)), (.int (0 : Int32)), (.int (0 : Int32)), (.int (0 : Int32)), (.int (0 : Int32)), (.int (0 : Int32)), (.int (0 : Int32)), (.int (0 : Int32))] (.int (0 : Int32)) := Arv.set Ar308 kc308 S308 Nn308 H308 G308 rfl W308 3 (by decide) (Nat.le_of_ble_eq_true rfl)
  have lt311 : b5 < h308.size := Nat.lt_of_lt_of_le lt304 (Nat.le_of_eq W308.size.symm)
  have lt312 : b166 < h308.size := Nat.lt_of_lt_of_le lt305 (Nat.le_of_eq W308.size.symm)
  have lt313 : b278 < h308.size := Nat.lt_of_lt_of_le lt306 (Nat.le_of_eq W308.size.symm)
  have Zs314 : n0 ≤ h308.size := Nat.le_trans Zs307 (Nat.le_of_eq W308.size.symm)
  show own_Go p e below s _ _ _ (T308.setTop (mkF m 226 #[.val (.int p1), .val (.int p2), .val (.int p3), .val (.ref b5), .val (.ref b166), .unset, .unset, .unset, .unset, .unset, .unset, .unset] [(.ref b278)]))
  refine own_st (fun _ kQ => XS.dup X308.here hx rfl (hb hby at_226) rfl rfl kQ) ?_
  show own_Go p e below s _ _ _ (T308.setTop (mkF m 227 #[.val (.int p1), .val (.int p2), .val (.int p3), .val (.ref b5), .val (.ref b166), .unset, .unset, .unset, .unset, .unset, .unset, .unset] [(.ref b278), (.ref b278)]))
  refine own_st (fun _ kQ => XT.iconstV X308.here hx rfl (4 : Int32) (hb hby at_227) (by decide) kQ) ?_
  show own_Go p e below s _ _ _ (T308.setTop (mkF m 228 #[.val (.int p1), .val (.int p2), .val (.int p3), .val (.ref b5), .val (.ref b166), .unset, .unset, .unset, .unset, .unset, .unset, .unset] [(.int (4 : Int32)), (.ref b278), (.ref b278)]))
  refine own_st (fun _ kQ => XT.bipushV X308.here hx rfl (7 : Int32) (hb hby at_228) (by decide) kQ) ?_
  show own_Go p e below s _ _ _ (T308.setTop (mkF m 230 #[.val (.int p1), .val (.int p2), .val (.int p3), .val (.ref b5), .val (.ref b166), .unset, .unset, .unset, .unset, .unset, .unset, .unset] [(.int (7 : Int32)), (.int (4 : Int32)), (.ref b278), (.ref b278)]))
  obtain ⟨cl315, Ar315, kc315, S315, Nn315, H315, G315⟩ := id F310
  have hin315 : ¬ ((4 : Int32) < 0 ∨ cl315.slots.size ≤ ((4 : Int32) : Int32).toNatClampNeg) := inb_of S315 (by decide)
  obtain ⟨T315, h315, X315, e315, W315, st315⟩ := stI X308 hx hZ e308 Ar315 (j := (4 : Int32)) hin315 (g := (mkF m 230 #[.val (.int p1), .val (.int p2), .val (.int p3), .val (.ref b5), .val (.ref b166), .unset, .unset, .unset, .unset, .unset, .unset, .unset] [(.int (7 : Int32)), (.int (4 : Int32)), (.ref b278), (.ref b278)])) rfl rfl (hb hby at_230)
  refine own_st st315 ?_
  have N316 := Fr.snoc X315 N309 g284
  have F317 : Arv Z h315 b278 k278 .int (17 : Int32) [(.int (7 : Int32)), (.int (11 : Int32)), (.int (2 : Int32)), (.int (4 : Int32)), (.int (7 : Int32)), (.int (0 : Int32)), (.int (0 : Int32)), (.int (0 : Int32)), (.int (0 : Int32)), (.int (0 : Int32)), (.int (0 : Int32)), (.int (0 : Int32)), (.int (0 : Int32)), (.int (0 : Int32)), (.int (0 : Int32)), (.int (0 : Int32)), (.int (0 : Int32))] (.int (0 : Int32)) := Arv.set Ar315 kc315 S315 Nn315 H315 G315 rfl W315 4 (by decide) (Nat.le_of_ble_eq_true rfl)
  have lt318 : b5 < h315.size := Nat.lt_of_lt_of_le lt311 (Nat.le_of_eq W315.size.symm)
  have lt319 : b166 < h315.size := Nat.lt_of_lt_of_le lt312 (Nat.le_of_eq W315.size.symm)
  have lt320 : b278 < h315.size := Nat.lt_of_lt_of_le lt313 (Nat.le_of_eq W315.size.symm)
  have Zs321 : n0 ≤ h315.size := Nat.le_trans Zs314 (Nat.le_of_eq W315.size.symm)
  show own_Go p e below s _ _ _ (T315.setTop (mkF m 231 #[.val (.int p1), .val (.int p2), .val (.int p3), .val (.ref b5), .val (.ref b166), .unset, .unset, .unset, .unset, .unset, .unset, .unset] [(.ref b278)]))
  refine own_st (fun _ kQ => XS.dup X315.here hx rfl (hb hby at_231) rfl rfl kQ) ?_
  show own_Go p e below s _ _ _ (T315.setTop (mkF m 232 #[.val (.int p1), .val (.int p2), .val (.int p3), .val (.ref b5), .val (.ref b166), .unset, .unset, .unset, .unset, .unset, .unset, .unset] [(.ref b278), (.ref b278)]))
  refine own_st (fun _ kQ => XT.iconstV X315.here hx rfl (5 : Int32) (hb hby at_232) (by decide) kQ) ?_
  show own_Go p e below s _ _ _ (T315.setTop (mkF m 233 #[.val (.int p1), .val (.int p2), .val (.int p3), .val (.ref b5), .val (.ref b166), .unset, .unset, .unset, .unset, .unset, .unset, .unset] [(.int (5 : Int32)), (.ref b278), (.ref b278)]))
  refine own_st (fun _ kQ => XT.bipushV X315.here hx rfl (7 : Int32) (hb hby at_233) (by decide) kQ) ?_
  show own_Go p e below s _ _ _ (T315.setTop (mkF m 235 #[.val (.int p1), .val (.int p2), .val (.int p3), .val (.ref b5), .val (.ref b166), .unset, .unset, .unset, .unset, .unset, .unset, .unset] [(.int (7 : Int32)), (.int (5 : Int32)), (.ref b278), (.ref b278)]))
  obtain ⟨cl322, Ar322, kc322, S322, Nn322, H322, G322⟩ := id F317
  have hin322 : ¬ ((5 : Int32) < 0 ∨ cl322.slots.size ≤ ((5 : Int32) : Int32).toNatClampNeg) := inb_of S322 (by decide)
  obtain ⟨T322, h322, X322, e322, W322, st322⟩ := stI X315 hx hZ e315 Ar322 (j := (5 : Int32)) hin322 (g := (mkF m 235 #[.val (.int p1), .val (.int p2), .val (.int p3), .val (.ref b5), .val (.ref b166), .unset, .unset, .unset, .unset, .unset, .unset, .unset] [(.int (7 : Int32)), (.int (5 : Int32)), (.ref b278), (.ref b278)])) rfl rfl (hb hby at_235)
  refine own_st st322 ?_
  have N323 := Fr.snoc X322 N316 g284
  have F324 : Arv Z h322 b278 k278 .int (17 : Int32) [(.int (7 : Int32)), (.int (11 : Int32)), (.int (2 : Int32)), (.int (4 : Int32)), (.int (7 : Int32)), (.int (7 : Int32)), (.int (0 : Int32)), (.int (0 : Int32)), (.int (0 : Int32)), (.int (0 : Int32)), (.int (0 : Int32)), (.int (0 : Int32)), (.int (0 : Int32)), (.int (0 : Int32)), (.int (0 : Int32)), (.int (0 : Int32)), (.int (0 : Int32))] (.int (0 : Int32)) := Arv.set Ar322 kc322 S322 Nn322 H322 G322 rfl W322 5 (by decide) (Nat.le_of_ble_eq_true rfl)
  have lt325 : b5 < h322.size := Nat.lt_of_lt_of_le lt318 (Nat.le_of_eq W322.size.symm)
  have lt326 : b166 < h322.size := Nat.lt_of_lt_of_le lt319 (Nat.le_of_eq W322.size.symm)
  have lt327 : b278 < h322.size := Nat.lt_of_lt_of_le lt320 (Nat.le_of_eq W322.size.symm)
  have Zs328 : n0 ≤ h322.size := Nat.le_trans Zs321 (Nat.le_of_eq W322.size.symm)
  obtain ⟨Lp329, Xp329, Np329⟩ : ∃ L, Stand p l e room_1 s m #[(.int p1), (.int p2), (.int p3)] below meth c T322 L 3 51 ∧ Fr n0 L := ⟨_, X322, N323⟩
  show own_Go p e below s _ _ _ (T322.setTop (mkF m 236 #[.val (.int p1), .val (.int p2), .val (.int p3), .val (.ref b5), .val (.ref b166), .unset, .unset, .unset, .unset, .unset, .unset, .unset] [(.ref b278)]))
  refine own_st (fun _ kQ => XS.dup Xp329.here hx rfl (hb hby at_236) rfl rfl kQ) ?_
  show own_Go p e below s _ _ _ (T322.setTop (mkF m 237 #[.val (.int p1), .val (.int p2), .val (.int p3), .val (.ref b5), .val (.ref b166), .unset, .unset, .unset, .unset, .unset, .unset, .unset] [(.ref b278), (.ref b278)]))
  refine own_st (fun _ kQ => XT.bipushV Xp329.here hx rfl (6 : Int32) (hb hby at_237) (by decide) kQ) ?_
  show own_Go p e below s _ _ _ (T322.setTop (mkF m 239 #[.val (.int p1), .val (.int p2), .val (.int p3), .val (.ref b5), .val (.ref b166), .unset, .unset, .unset, .unset, .unset, .unset, .unset] [(.int (6 : Int32)), (.ref b278), (.ref b278)]))
  refine own_st (fun _ kQ => XT.iconstV Xp329.here hx rfl (2 : Int32) (hb hby at_239) (by decide) kQ) ?_
  show own_Go p e below s _ _ _ (T322.setTop (mkF m 240 #[.val (.int p1), .val (.int p2), .val (.int p3), .val (.ref b5), .val (.ref b166), .unset, .unset, .unset, .unset, .unset, .unset, .unset] [(.int (2 : Int32)), (.int (6 : Int32)), (.ref b278), (.ref b278)]))
  obtain ⟨cl330, Ar330, kc330, S330, Nn330, H330, G330⟩ := id F324
  have hin330 : ¬ ((6 : Int32) < 0 ∨ cl330.slots.size ≤ ((6 : Int32) : Int32).toNatClampNeg) := inb_of S330 (by decide)
  obtain ⟨T330, h330, X330, e330, W330, st330⟩ := stI Xp329 hx hZ e322 Ar330 (j := (6 : Int32)) hin330 (g := (mkF m 240 #[.val (.int p1), .val (.int p2), .val (.int p3), .val (.ref b5), .val (.ref b166), .unset, .unset, .unset, .unset, .unset, .unset, .unset] [(.int (2 : Int32)), (.int (6 : Int32)), (.ref b278), (.ref b278)])) rfl rfl (hb hby at_240)
  refine own_st st330 ?_
  have N331 := Fr.snoc X330 Np329 g284
  have F332 : Arv Z h330 b278 k278 .int (17 : Int32) [(.int (7 : Int32)), (.int (11 : Int32)), (.int (2 : Int32)), (.int (4 : Int32)), (.int (7 : Int32)), (.int (7 : Int32)), (.int (2 : Int32)), (.int (0 : Int32)), (.int (0 : Int32)), (.int (0 : Int32)), (.int (0 : Int32)), (.int (0 : Int32)), (.int (0 : Int32)), (.int (0 : Int32)), (.int (0 : Int32)), (.int (0 : Int32)), (.int (0 : Int32))] (.int (0 : Int32)) := Arv.set Ar330 kc330 S330 Nn330 H330 G330 rfl W330 6 (by decide) (Nat.le_of_ble_eq_true rfl)
  have lt333 : b5 < h330.size := Nat.lt_of_lt_of_le lt325 (Nat.le_of_eq W330.size.symm)
  have lt334 : b166 < h330.size := Nat.lt_of_lt_of_le lt326 (Nat.le_of_eq W330.size.symm)
  have lt335 : b278 < h330.size := Nat.lt_of_lt_of_le lt327 (Nat.le_of_eq W330.size.symm)
  have Zs336 : n0 ≤ h330.size := Nat.le_trans Zs328 (Nat.le_of_eq W330.size.symm)
  show own_Go p e below s _ _ _ (T330.setTop (mkF m 241 #[.val (.int p1), .val (.int p2), .val (.int p3), .val (.ref b5), .val (.ref b166), .unset, .unset, .unset, .unset, .unset, .unset, .unset] [(.ref b278)]))
  refine own_st (fun _ kQ => XS.dup X330.here hx rfl (hb hby at_241) rfl rfl kQ) ?_
  show own_Go p e below s _ _ _ (T330.setTop (mkF m 242 #[.val (.int p1), .val (.int p2), .val (.int p3), .val (.ref b5), .val (.ref b166), .unset, .unset, .unset, .unset, .unset, .unset, .unset] [(.ref b278), (.ref b278)]))
  refine own_st (fun _ kQ => XT.bipushV X330.here hx rfl (7 : Int32) (hb hby at_242) (by decide) kQ) ?_
  show own_Go p e below s _ _ _ (T330.setTop (mkF m 244 #[.val (.int p1), .val (.int p2), .val (.int p3), .val (.ref b5), .val (.ref b166), .unset, .unset, .unset, .unset, .unset, .unset, .unset] [(.int (7 : Int32)), (.ref b278), (.ref b278)]))
  refine own_st (fun _ kQ => XT.iconstV X330.here hx rfl (5 : Int32) (hb hby at_244) (by decide) kQ) ?_
  show own_Go p e below s _ _ _ (T330.setTop (mkF m 245 #[.val (.int p1), .val (.int p2), .val (.int p3), .val (.ref b5), .val (.ref b166), .unset, .unset, .unset, .unset, .unset, .unset, .unset] [(.int (5 : Int32)), (.int (7 : Int32)), (.ref b278), (.ref b278)]))
  obtain ⟨cl337, Ar337, kc337, S337, Nn337, H337, G337⟩ := id F332
  have hin337 : ¬ ((7 : Int32) < 0 ∨ cl337.slots.size ≤ ((7 : Int32) : Int32).toNatClampNeg) := inb_of S337 (by decide)
  obtain ⟨T337, h337, X337, e337, W337, st337⟩ := stI X330 hx hZ e330 Ar337 (j := (7 : Int32)) hin337 (g := (mkF m 245 #[.val (.int p1), .val (.int p2), .val (.int p3), .val (.ref b5), .val (.ref b166), .unset, .unset, .unset, .unset, .unset, .unset, .unset] [(.int (5 : Int32)), (.int (7 : Int32)), (.ref b278), (.ref b278)])) rfl rfl (hb hby at_245)
  refine own_st st337 ?_
  have N338 := Fr.snoc X337 N331 g284
  have F339 : Arv Z h337 b278 k278 .int (17 : Int32) [(.int (7 : Int32)), (.int (11 : Int32)), (.int (2 : Int32)), (.int (4 : Int32)), (.int (7 : Int32)), (.int (7 : Int32)), (.int (2 : Int32)), (.int (5 : Int32)), (.int (0 : Int32)), (.int (0 : Int32)), (.int (0 : Int32)), (.int (0 : Int32)), (.int (0 : Int32)), (.int (0 : Int32)), (.int (0 : Int32)), (.int (0 : Int32)), (.int (0 : Int32))] (.int (0 : Int32)) := Arv.set Ar337 kc337 S337 Nn337 H337 G337 rfl W337 7 (by decide) (Nat.le_of_ble_eq_true rfl)
  have lt340 : b5 < h337.size := Nat.lt_of_lt_of_le lt333 (Nat.le_of_eq W337.size.symm)
  have lt341 : b166 < h337.size := Nat.lt_of_lt_of_le lt334 (Nat.le_of_eq W337.size.symm)
  have lt342 : b278 < h337.size := Nat.lt_of_lt_of_le lt335 (Nat.le_of_eq W337.size.symm)
  have Zs343 : n0 ≤ h337.size := Nat.le_trans Zs336 (Nat.le_of_eq W337.size.symm)
  show own_Go p e below s _ _ _ (T337.setTop (mkF m 246 #[.val (.int p1), .val (.int p2), .val (.int p3), .val (.ref b5), .val (.ref b166), .unset, .unset, .unset, .unset, .unset, .unset, .unset] [(.ref b278)]))
  refine own_st (fun _ kQ => XS.dup X337.here hx rfl (hb hby at_246) rfl rfl kQ) ?_
  show own_Go p e below s _ _ _ (T337.setTop (mkF m 247 #[.val (.int p1), .val (.int p2), .val (.int p3), .val (.ref b5), .val (.ref b166), .unset, .unset, .unset, .unset, .unset, .unset, .unset] [(.ref b278), (.ref b278)]))
  refine own_st (fun _ kQ => XT.bipushV X337.here hx rfl (8 : Int32) (hb hby at_247) (by decide) kQ) ?_
  show own_Go p e below s _ _ _ (T337.setTop (mkF m 249 #[.val (.int p1), .val (.int p2), .val (.int p3), .val (.ref b5), .val (.ref b166), .unset, .unset, .unset, .unset, .unset, .unset, .unset] [(.int (8 : Int32)), (.ref b278), (.ref b278)]))
  refine own_st (fun _ kQ => XT.iconstV X337.here hx rfl (3 : Int32) (hb hby at_249) (by decide) kQ) ?_
  show own_Go p e below s _ _ _ (T337.setTop (mkF m 250 #[.val (.int p1), .val (.int p2), .val (.int p3), .val (.ref b5), .val (.ref b166), .unset, .unset, .unset, .unset, .unset, .unset, .unset] [(.int (3 : Int32)), (.int (8 : Int32)), (.ref b278), (.ref b278)]))
  obtain ⟨cl344, Ar344, kc344, S344, Nn344, H344, G344⟩ := id F339
  have hin344 : ¬ ((8 : Int32) < 0 ∨ cl344.slots.size ≤ ((8 : Int32) : Int32).toNatClampNeg) := inb_of S344 (by decide)
  obtain ⟨T344, h344, X344, e344, W344, st344⟩ := stI X337 hx hZ e337 Ar344 (j := (8 : Int32)) hin344 (g := (mkF m 250 #[.val (.int p1), .val (.int p2), .val (.int p3), .val (.ref b5), .val (.ref b166), .unset, .unset, .unset, .unset, .unset, .unset, .unset] [(.int (3 : Int32)), (.int (8 : Int32)), (.ref b278), (.ref b278)])) rfl rfl (hb hby at_250)
  refine own_st st344 ?_
  have N345 := Fr.snoc X344 N338 g284
  have F346 : Arv Z h344 b278 k278 .int (17 : Int32) [(.int (7 : Int32)), (.int (11 : Int32)), (.int (2 : Int32)), (.int (4 : Int32)), (.int (7 : Int32)), (.int (7 : Int32)), (.int (2 : Int32)), (.int (5 : Int32)), (.int (3 : Int32)), (.int (0 : Int32)), (.int (0 : Int32)), (.int (0 : Int32)), (.int (0 : Int32)), (.int (0 : Int32)), (.int (0 : Int32)), (.int (0 : Int32)), (.int (0 : Int32))] (.int (0 : Int32)) := Arv.set Ar344 kc344 S344 Nn344 H344 G344 rfl W344 8 (by decide) (Nat.le_of_ble_eq_true rfl)
  have lt347 : b5 < h344.size := Nat.lt_of_lt_of_le lt340 (Nat.le_of_eq W344.size.symm)
  have lt348 : b166 < h344.size := Nat.lt_of_lt_of_le lt341 (Nat.le_of_eq W344.size.symm)
  have lt349 : b278 < h344.size := Nat.lt_of_lt_of_le lt342 (Nat.le_of_eq W344.size.symm)
  have Zs350 : n0 ≤ h344.size := Nat.le_trans Zs343 (Nat.le_of_eq W344.size.symm)
  show own_Go p e below s _ _ _ (T344.setTop (mkF m 251 #[.val (.int p1), .val (.int p2), .val (.int p3), .val (.ref b5), .val (.ref b166), .unset, .unset, .unset, .unset, .unset, .unset, .unset] [(.ref b278)]))
  refine own_st (fun _ kQ => XS.dup X344.here hx rfl (hb hby at_251) rfl rfl kQ) ?_
  show own_Go p e below s _ _ _ (T344.setTop (mkF m 252 #[.val (.int p1), .val (.int p2), .val (.int p3), .val (.ref b5), .val (.ref b166), .unset, .unset, .unset, .unset, .unset, .unset, .unset] [(.ref b278), (.ref b278)]))
  refine own_st (fun _ kQ => XT.bipushV X344.here hx rfl (9 : Int32) (hb hby at_252) (by decide) kQ) ?_
  show own_Go p e below s _ _ _ (T344.setTop (mkF m 254 #[.val (.int p1), .val (.int p2), .val (.int p3), .val (.ref b5), .val (.ref b166), .unset, .unset, .unset, .unset, .unset, .unset, .unset] [(.int (9 : Int32)), (.ref b278), (.ref b278)]))
  refine own_st (fun _ kQ => XT.iconstV X344.here hx rfl (1 : Int32) (hb hby at_254) (by decide) kQ) ?_
  show own_Go p e below s _ _ _ (T344.setTop (mkF m 255 #[.val (.int p1), .val (.int p2), .val (.int p3), .val (.ref b5), .val (.ref b166), .unset, .unset, .unset, .unset, .unset, .unset, .unset] [(.int (1 : Int32)), (.int (9 : Int32)), (.ref b278), (.ref b278)]))
  obtain ⟨cl351, Ar351, kc351, S351, Nn351, H351, G351⟩ := id F346
  have hin351 : ¬ ((9 : Int32) < 0 ∨ cl351.slots.size ≤ ((9 : Int32) : Int32).toNatClampNeg) := inb_of S351 (by decide)
  obtain ⟨T351, h351, X351, e351, W351, st351⟩ := stI X344 hx hZ e344 Ar351 (j := (9 : Int32)) hin351 (g := (mkF m 255 #[.val (.int p1), .val (.int p2), .val (.int p3), .val (.ref b5), .val (.ref b166), .unset, .unset, .unset, .unset, .unset, .unset, .unset] [(.int (1 : Int32)), (.int (9 : Int32)), (.ref b278), (.ref b278)])) rfl rfl (hb hby at_255)
  refine own_st st351 ?_
  have N352 := Fr.snoc X351 N345 g284
  have F353 : Arv Z h351 b278 k278 .int (17 : Int32) [(.int (7 : Int32)), (.int (11 : Int32)), (.int (2 : Int32)), (.int (4 : Int32)), (.int (7 : Int32)), (.int (7 : Int32)), (.int (2 : Int32)), (.int (5 : Int32)), (.int (3 : Int32)), (.int (1 : Int32)), (.int (0 : Int32)), (.int (0 : Int32)), (.int (0 : Int32)), (.int (0 : Int32)), (.int (0 : Int32)), (.int (0 : Int32)), (.int (0 : Int32))] (.int (0 : Int32)) := Arv.set Ar351 kc351 S351 Nn351 H351 G351 rfl W351 9 (by decide) (Nat.le_of_ble_eq_true rfl)
  have lt354 : b5 < h351.size := Nat.lt_of_lt_of_le lt347 (Nat.le_of_eq W351.size.symm)
  have lt355 : b166 < h351.size := Nat.lt_of_lt_of_le lt348 (Nat.le_of_eq W351.size.symm)
  have lt356 : b278 < h351.size := Nat.lt_of_lt_of_le lt349 (Nat.le_of_eq W351.size.symm)
  have Zs357 : n0 ≤ h351.size := Nat.le_trans Zs350 (Nat.le_of_eq W351.size.symm)
  obtain ⟨Lp358, Xp358, Np358⟩ : ∃ L, Stand p l e room_1 s m #[(.int p1), (.int p2), (.int p3)] below meth c T351 L 3 51 ∧ Fr n0 L := ⟨_, X351, N352⟩
  show own_Go p e below s _ _ _ (T351.setTop (mkF m 256 #[.val (.int p1), .val (.int p2), .val (.int p3), .val (.ref b5), .val (.ref b166), .unset, .unset, .unset, .unset, .unset, .unset, .unset] [(.ref b278)]))
  refine own_st (fun _ kQ => XS.dup Xp358.here hx rfl (hb hby at_256) rfl rfl kQ) ?_
  show own_Go p e below s _ _ _ (T351.setTop (mkF m 257 #[.val (.int p1), .val (.int p2), .val (.int p3), .val (.ref b5), .val (.ref b166), .unset, .unset, .unset, .unset, .unset, .unset, .unset] [(.ref b278), (.ref b278)]))
  refine own_st (fun _ kQ => XT.bipushV Xp358.here hx rfl (10 : Int32) (hb hby at_257) (by decide) kQ) ?_
  show own_Go p e below s _ _ _ (T351.setTop (mkF m 259 #[.val (.int p1), .val (.int p2), .val (.int p3), .val (.ref b5), .val (.ref b166), .unset, .unset, .unset, .unset, .unset, .unset, .unset] [(.int (10 : Int32)), (.ref b278), (.ref b278)]))
  refine own_st (fun _ kQ => XT.iconstV Xp358.here hx rfl (3 : Int32) (hb hby at_259) (by decide) kQ) ?_
  show own_Go p e below s _ _ _ (T351.setTop (mkF m 260 #[.val (.int p1), .val (.int p2), .val (.int p3), .val (.ref b5), .val (.ref b166), .unset, .unset, .unset, .unset, .unset, .unset, .unset] [(.int (3 : Int32)), (.int (10 : Int32)), (.ref b278), (.ref b278)]))
  obtain ⟨cl359, Ar359, kc359, S359, Nn359, H359, G359⟩ := id F353
  have hin359 : ¬ ((10 : Int32) < 0 ∨ cl359.slots.size ≤ ((10 : Int32) : Int32).toNatClampNeg) := inb_of S359 (by decide)
  obtain ⟨T359, h359, X359, e359, W359, st359⟩ := stI Xp358 hx hZ e351 Ar359 (j := (10 : Int32)) hin359 (g := (mkF m 260 #[.val (.int p1), .val (.int p2), .val (.int p3), .val (.ref b5), .val (.ref b166), .unset, .unset, .unset, .unset, .unset, .unset, .unset] [(.int (3 : Int32)), (.int (10 : Int32)), (.ref b278), (.ref b278)])) rfl rfl (hb hby at_260)
  refine own_st st359 ?_
  have N360 := Fr.snoc X359 Np358 g284
  have F361 : Arv Z h359 b278 k278 .int (17 : Int32) [(.int (7 : Int32)), (.int (11 : Int32)), (.int (2 : Int32)), (.int (4 : Int32)), (.int (7 : Int32)), (.int (7 : Int32)), (.int (2 : Int32)), (.int (5 : Int32)), (.int (3 : Int32)), (.int (1 : Int32)), (.int (3 : Int32)), (.int (0 : Int32)), (.int (0 : Int32)), (.int (0 : Int32)), (.int (0 : Int32)), (.int (0 : Int32)), (.int (0 : Int32))] (.int (0 : Int32)) := Arv.set Ar359 kc359 S359 Nn359 H359 G359 rfl W359 10 (by decide) (Nat.le_of_ble_eq_true rfl)
  have lt362 : b5 < h359.size := Nat.lt_of_lt_of_le lt354 (Nat.le_of_eq W359.size.symm)
  have lt363 : b166 < h359.size := Nat.lt_of_lt_of_le lt355 (Nat.le_of_eq W359.size.symm)
  have lt364 : b278 < h359.size := Nat.lt_of_lt_of_le lt356 (Nat.le_of_eq W359.size.symm)
  have Zs365 : n0 ≤ h359.size := Nat.le_trans Zs357 (Nat.le_of_eq W359.size.symm)
  show own_Go p e below s _ _ _ (T359.setTop (mkF m 261 #[.val (.int p1), .val (.int p2), .val (.int p3), .val (.ref b5), .val (.ref b166), .unset, .unset, .unset, .unset, .unset, .unset, .unset] [(.ref b278)]))
  refine own_st (fun _ kQ => XS.dup X359.here hx rfl (hb hby at_261) rfl rfl kQ) ?_
  show own_Go p e below s _ _ _ (T359.setTop (mkF m 262 #[.val (.int p1), .val (.int p2), .val (.int p3), .val (.ref b5), .val (.ref b166), .unset, .unset, .unset, .unset, .unset, .unset, .unset] [(.ref b278), (.ref b278)]))
  refine own_st (fun _ kQ => XT.bipushV X359.here hx rfl (11 : Int32) (hb hby at_262) (by decide) kQ) ?_
  show own_Go p e below s _ _ _ (T359.setTop (mkF m 264 #[.val (.int p1), .val (.int p2), .val (.int p3), .val (.ref b5), .val (.ref b166), .unset, .unset, .unset, .unset, .unset, .unset, .unset] [(.int (11 : Int32)), (.ref b278), (.ref b278)]))
  refine own_st (fun _ kQ => XT.iconstV X359.here hx rfl (3 : Int32) (hb hby at_264) (by decide) kQ) ?_
  show own_Go p e below s _ _ _ (T359.setTop (mkF m 265 #[.val (.int p1), .val (.int p2), .val (.int p3), .val (.ref b5), .val (.ref b166), .unset, .unset, .unset, .unset, .unset, .unset, .unset] [(.int (3 : Int32)), (.int (11 : Int32)), (.ref b278), (.ref b278)]))
  obtain ⟨cl366, Ar366, kc366, S366, Nn366, H366, G366⟩ := id F361
  have hin366 : ¬ ((11 : Int32) < 0 ∨ cl366.slots.size ≤ ((11 : Int32) : Int32).toNatClampNeg) := inb_of S366 (by decide)
  obtain ⟨T366, h366, X366, e366, W366, st366⟩ := stI X359 hx hZ e359 Ar366 (j := (11 : Int32)) hin366 (g := (mkF m 265 #[.val (.int p1), .val (.int p2), .val (.int p3), .val (.ref b5), .val (.ref b166), .unset, .unset, .unset, .unset, .unset, .unset, .unset] [(.int (3 : Int32)), (.int (11 : Int32)), (.ref b278), (.ref b278)])) rfl rfl (hb hby at_265)
  refine own_st st366 ?_
  have N367 := Fr.snoc X366 N360 g284
  have F368 : Arv Z h366 b278 k278 .int (17 : Int32) [(.int (7 : Int32)), (.int (11 : Int32)), (.int (2 : Int32)), (.int (4 : Int32)), (.int (7 : Int32)), (.int (7 : Int32)), (.int (2 : Int32)), (.int (5 : Int32)), (.int (3 : Int32)), (.int (1 : Int32)), (.int (3 : Int32)), (.int (3 : Int32)), (.int (0 : Int32)), (.int (0 : Int32)), (.int (0 : Int32)), (.int (0 : Int32)), (.int (0 : Int32))] (.int (0 : Int32)) := Arv.set Ar366 kc366 S366 Nn366 H366 G366 rfl W366 11 (by decide) (Nat.le_of_ble_eq_true rfl)
  have lt369 : b5 < h366.size := Nat.lt_of_lt_of_le lt362 (Nat.le_of_eq W366.size.symm)
  have lt370 : b166 < h366.size := Nat.lt_of_lt_of_le lt363 (Nat.le_of_eq W366.size.symm)
  have lt371 : b278 < h366.size := Nat.lt_of_lt_of_le lt364 (Nat.le_of_eq W366.size.symm)
  have Zs372 : n0 ≤ h366.size := Nat.le_trans Zs365 (Nat.le_of_eq W366.size.symm)
  show own_Go p e below s _ _ _ (T366.setTop (mkF m 266 #[.val (.int p1), .val (.int p2), .val (.int p3), .val (.ref b5), .val (.ref b166), .unset, .unset, .unset, .unset, .unset, .unset, .unset] [(.ref b278)]))
  refine own_st (fun _ kQ => XS.dup X366.here hx rfl (hb hby at_266) rfl rfl kQ) ?_
  show own_Go p e below s _ _ _ (T366.setTop (mkF m 267 #[.val (.int p1), .val (.int p2), .val (.int p3), .val (.ref b5), .val (.ref b166), .unset, .unset, .unset, .unset, .unset, .unset, .unset] [(.ref b278), (.ref b278)]))
  refine own_st (fun _ kQ => XT.bipushV X366.here hx rfl (12 : Int32) (hb hby at_267) (by decide) kQ) ?_
  show own_Go p e below s _ _ _ (T366.setTop (mkF m 269 #[.val (.int p1), .val (.int p2), .val (.int p3), .val (.ref b5), .val (.ref b166), .unset, .unset, .unset, .unset, .unset, .unset, .unset] [(.int (12 : Int32)), (.ref b278), (.ref b278)]))
  refine own_st (fun _ kQ => XT.iconstV X366.here hx rfl (4 : Int32) (hb hby at_269) (by decide) kQ) ?_
  show own_Go p e below s _ _ _ (T366.setTop (mkF m 270 #[.val (.int p1), .val (.int p2), .val (.int p3), .val (.ref b5), .val (.ref b166), .unset, .unset, .unset, .unset, .unset, .unset, .unset] [(.int (4 : Int32)), (.int (12 : Int32)), (.ref b278), (.ref b278)]))
  obtain ⟨cl373, Ar373, kc373, S373, Nn373, H373, G373⟩ := id F368
  have hin373 : ¬ ((12 : Int32) < 0 ∨ cl373.slots.size ≤ ((12 : Int32) : Int32).toNatClampNeg) := inb_of S373 (by decide)
  obtain ⟨T373, h373, X373, e373, W373, st373⟩ := stI X366 hx hZ e366 Ar373 (j := (12 : Int32)) hin373 (g := (mkF m 270 #[.val (.int p1), .val (.int p2), .val (.int p3), .val (.ref b5), .val (.ref b166), .unset, .unset, .unset, .unset, .unset, .unset, .unset] [(.int (4 : Int32)), (.int (12 : Int32)), (.ref b278), (.ref b278)])) rfl rfl (hb hby at_270)
  refine own_st st373 ?_
  have N374 := Fr.snoc X373 N367 g284
  have F375 : Arv Z h373 b278 k278 .int (17 : Int32) [(.int (7 : Int32)), (.int (11 : Int32)), (.int (2 : Int32)), (.int (4 : Int32)), (.int (7 : Int32)), (.int (7 : Int32)), (.int (2 : Int32)), (.int (5 : Int32)), (.int (3 : Int32)), (.int (1 : Int32)), (.int (3 : Int32)), (.int (3 : Int32)), (.int (4 : Int32)), (.int (0 : Int32)), (.int (0 : Int32)), (.int (0 : Int32)), (.int (0 : Int32))] (.int (0 : Int32)) := Arv.set Ar373 kc373 S373 Nn373 H373 G373 rfl W373 12 (by decide) (Nat.le_of_ble_eq_true rfl)
  have lt376 : b5 < h373.size := Nat.lt_of_lt_of_le lt369 (Nat.le_of_eq W373.size.symm)
  have lt377 : b166 < h373.size := Nat.lt_of_lt_of_le lt370 (Nat.le_of_eq W373.size.symm)
  have lt378 : b278 < h373.size := Nat.lt_of_lt_of_le lt371 (Nat.le_of_eq W373.size.symm)
  have Zs379 : n0 ≤ h373.size := Nat.le_trans Zs372 (Nat.le_of_eq W373.size.symm)
  show own_Go p e below s _ _ _ (T373.setTop (mkF m 271 #[.val (.int p1), .val (.int p2), .val (.int p3), .val (.ref b5), .val (.ref b166), .unset, .unset, .unset, .unset, .unset, .unset, .unset] [(.ref b278)]))
  refine own_st (fun _ kQ => XS.dup X373.here hx rfl (hb hby at_271) rfl rfl kQ) ?_
  show own_Go p e below s _ _ _ (T373.setTop (mkF m 272 #[.val (.int p1), .val (.int p2), .val (.int p3), .val (.ref b5), .val (.ref b166), .unset, .unset, .unset, .unset, .unset, .unset, .unset] [(.ref b278), (.ref b278)]))
  refine own_st (fun _ kQ => XT.bipushV X373.here hx rfl (13 : Int32) (hb hby at_272) (by decide) kQ) ?_
  show own_Go p e below s _ _ _ (T373.setTop (mkF m 274 #[.val (.int p1), .val (.int p2), .val (.int p3), .val (.ref b5), .val (.ref b166), .unset, .unset, .unset, .unset, .unset, .unset, .unset] [(.int (13 : Int32)), (.ref b278), (.ref b278)]))
  refine own_st (fun _ kQ => XT.iconstV X373.here hx rfl (0 : Int32) (hb hby at_274) (by decide) kQ) ?_
  show own_Go p e below s _ _ _ (T373.setTop (mkF m 275 #[.val (.int p1), .val (.int p2), .val (.int p3), .val (.ref b5), .val (.ref b166), .unset, .unset, .unset, .unset, .unset, .unset, .unset] [(.int (0 : Int32)), (.int (13 : Int32)), (.ref b278), (.ref b278)]))
  obtain ⟨cl380, Ar380, kc380, S380, Nn380, H380, G380⟩ := id F375
  have hin380 : ¬ ((13 : Int32) < 0 ∨ cl380.slots.size ≤ ((13 : Int32) : Int32).toNatClampNeg) := inb_of S380 (by decide)
  obtain ⟨T380, h380, X380, e380, W380, st380⟩ := stI X373 hx hZ e373 Ar380 (j := (13 : Int32)) hin380 (g := (mkF m 275 #[.val (.int p1), .val (.int p2), .val (.int p3), .val (.ref b5), .val (.ref b166), .unset, .unset, .unset, .unset, .unset, .unset, .unset] [(.int (0 : Int32)), (.int (13 : Int32)), (.ref b278), (.ref b278)])) rfl rfl (hb hby at_275)
  refine own_st st380 ?_
  have N381 := Fr.snoc X380 N374 g284
  have F382 : Arv Z h380 b278 k278 .int (17 : Int32) [(.int (7 : Int32)), (.int (11 : Int32)), (.int (2 : Int32)), (.int (4 : Int32)), (.int (7 : Int32)), (.int (7 : Int32)), (.int (2 : Int32)), (.int (5 : Int32)), (.int (3 : Int32)), (.int (1 : Int32)), (.int (3 : Int32)), (.int (3 : Int32)), (.int (4 : Int32)), (.int (0 : Int32)), (.int (0 : Int32)), (.int (0 : Int32)), (.int (0 : Int32))] (.int (0 : Int32)) := Arv.set Ar380 kc380 S380 Nn380 H380 G380 rfl W380 13 (by decide) (Nat.le_of_ble_eq_true rfl)
  have lt383 : b5 < h380.size := Nat.lt_of_lt_of_le lt376 (Nat.le_of_eq W380.size.symm)
  have lt384 : b166 < h380.size := Nat.lt_of_lt_of_le lt377 (Nat.le_of_eq W380.size.symm)
  have lt385 : b278 < h380.size := Nat.lt_of_lt_of_le lt378 (Nat.le_of_eq W380.size.symm)
  have Zs386 : n0 ≤ h380.size := Nat.le_trans Zs379 (Nat.le_of_eq W380.size.symm)
  obtain ⟨Lp387, Xp387, Np387⟩ : ∃ L, Stand p l e room_1 s m #[(.int p1), (.int p2), (.int p3)] below meth c T380 L 3 51 ∧ Fr n0 L := ⟨_, X380, N381⟩
  show own_Go p e below s _ _ _ (T380.setTop (mkF m 276 #[.val (.int p1), .val (.int p2), .val (.int p3), .val (.ref b5), .val (.ref b166), .unset, .unset, .unset, .unset, .unset, .unset, .unset] [(.ref b278)]))
  refine own_st (fun _ kQ => XS.dup Xp387.here hx rfl (hb hby at_276) rfl rfl kQ) ?_
  show own_Go p e below s _ _ _ (T380.setTop (mkF m 277 #[.val (.int p1), .val (.int p2), .val (.int p3), .val (.ref b5), .val (.ref b166), .unset, .unset, .unset, .unset, .unset, .unset, .unset] [(.ref b278), (.ref b278)]))
  refine own_st (fun _ kQ => XT.bipushV Xp387.here hx rfl (14 : Int32) (hb hby at_277) (by decide) kQ) ?_
  show own_Go p e below s _ _ _ (T380.setTop (mkF m 279 #[.val (.int p1), .val (.int p2), .val (.int p3), .val (.ref b5), .val (.ref b166), .unset, .unset, .unset, .unset, .unset, .unset, .unset] [(.int (14 : Int32)), (.ref b278), (.ref b278)]))
  refine own_st (fun _ kQ => XT.iconstV Xp387.here hx rfl (0 : Int32) (hb hby at_279) (by decide) kQ) ?_
  show own_Go p e below s _ _ _ (T380.setTop (mkF m 280 #[.val (.int p1), .val (.int p2), .val (.int p3), .val (.ref b5), .val (.ref b166), .unset, .unset, .unset, .unset, .unset, .unset, .unset] [(.int (0 : Int32)), (.int (14 : Int32)), (.ref b278), (.ref b278)]))
  obtain ⟨cl388, Ar388, kc388, S388, Nn388, H388, G388⟩ := id F382
  have hin388 : ¬ ((14 : Int32) < 0 ∨ cl388.slots.size ≤ ((14 : Int32) : Int32).toNatClampNeg) := inb_of S388 (by decide)
  obtain ⟨T388, h388, X388, e388, W388, st388⟩ := stI Xp387 hx hZ e380 Ar388 (j := (14 : Int32)) hin388 (g := (mkF m 280 #[.val (.int p1), .val (.int p2), .val (.int p3), .val (.ref b5), .val (.ref b166), .unset, .unset, .unset, .unset, .unset, .unset, .unset] [(.int (0 : Int32)), (.int (14 : Int32)), (.ref b278), (.ref b278)])) rfl rfl (hb hby at_280)
  refine own_st st388 ?_
  have N389 := Fr.snoc X388 Np387 g284
  have F390 : Arv Z h388 b278 k278 .int (17 : Int32) [(.int (7 : Int32)), (.int (11 : Int32)), (.int (2 : Int32)), (.int (4 : Int32)), (.int (7 : Int32)), (.int (7 : Int32)), (.int (2 : Int32)), (.int (5 : Int32)), (.int (3 : Int32)), (.int (1 : Int32)), (.int (3 : Int32)), (.int (3 : Int32)), (.int (4 : Int32)), (.int (0 : Int32)), (.int (0 : Int32)), (.int (0 : Int32)), (.int (0 : Int32))] (.int (0 : Int32)) := Arv.set Ar388 kc388 S388 Nn388 H388 G388 rfl W388 14 (by decide) (Nat.le_of_ble_eq_true rfl)
  have lt391 : b5 < h388.size := Nat.lt_of_lt_of_le lt383 (Nat.le_of_eq W388.size.symm)
  have lt392 : b166 < h388.size := Nat.lt_of_lt_of_le lt384 (Nat.le_of_eq W388.size.symm)
  have lt393 : b278 < h388.size := Nat.lt_of_lt_of_le lt385 (Nat.le_of_eq W388.size.symm)
  have Zs394 : n0 ≤ h388.size := Nat.le_trans Zs386 (Nat.le_of_eq W388.size.symm)
  show own_Go p e below s _ _ _ (T388.setTop (mkF m 281 #[.val (.int p1), .val (.int p2), .val (.int p3), .val (.ref b5), .val (.ref b166), .unset, .unset, .unset, .unset, .unset, .unset, .unset] [(.ref b278)]))
  refine own_st (fun _ kQ => XS.dup X388.here hx rfl (hb hby at_281) rfl rfl kQ) ?_
  show own_Go p e below s _ _ _ (T388.setTop (mkF m 282 #[.val (.int p1), .val (.int p2), .val (.int p3), .val (.ref b5), .val (.ref b166), .unset, .unset, .unset, .unset, .unset, .unset, .unset] [(.ref b278), (.ref b278)]))
  refine own_st (fun _ kQ => XT.bipushV X388.here hx rfl (15 : Int32) (hb hby at_282) (by decide) kQ) ?_
  show own_Go p e below s _ _ _ (T388.setTop (mkF m 284 #[.val (.int p1), .val (.int p2), .val (.int p3), .val (.ref b5), .val (.ref b166), .unset, .unset, .unset, .unset, .unset, .unset, .unset] [(.int (15 : Int32)), (.ref b278), (.ref b278)]))
  refine own_st (fun _ kQ => XT.iconstV X388.here hx rfl (1 : Int32) (hb hby at_284) (by decide) kQ) ?_
  show own_Go p e below s _ _ _ (T388.setTop (mkF m 285 #[.val (.int p1), .val (.int p2), .val (.int p3), .val (.ref b5), .val (.ref b166), .unset, .unset, .unset, .unset, .unset, .unset, .unset] [(.int (1 : Int32)), (.int (15 : Int32)), (.ref b278), (.ref b278)]))
  obtain ⟨cl395, Ar395, kc395, S395, Nn395, H395, G395⟩ := id F390
  have hin395 : ¬ ((15 : Int32) < 0 ∨ cl395.slots.size ≤ ((15 : Int32) : Int32).toNatClampNeg) := inb_of S395 (by decide)
  obtain ⟨T395, h395, X395, e395, W395, st395⟩ := stI X388 hx hZ e388 Ar395 (j := (15 : Int32)) hin395 (g := (mkF m 285 #[.val (.int p1), .val (.int p2), .val (.int p3), .val (.ref b5), .val (.ref b166), .unset, .unset, .unset, .unset, .unset, .unset, .unset] [(.int (1 : Int32)), (.int (15 : Int32)), (.ref b278), (.ref b278)])) rfl rfl (hb hby at_285)
  refine own_st st395 ?_
  have N396 := Fr.snoc X395 N389 g284
  have F397 : Arv Z h395 b278 k278 .int (17 : Int32) [(.int (7 : Int32)), (.int (11 : Int32)), (.int (2 : Int32)), (.int (4 : Int32)), (.int (7 : Int32)), (.int (7 : Int32)), (.int (2 : Int32)), (.int (5 : Int32)), (.int (3 : Int32)), (.int (1 : Int32)), (.int (3 : Int32)), (.int (3 : Int32)), (.int (4 : Int32)), (.int (0 : Int32)), (.int (0 : Int32)), (.int (1 : Int32)), (.int (0 : Int32))] (.int (0 : Int32)) := Arv.set Ar395 kc395 S395 Nn395 H395 G395 rfl W395 15 (by decide) (Nat.le_of_ble_eq_true rfl)
  have lt398 : b5 < h395.size := Nat.lt_of_lt_of_le lt391 (Nat.le_of_eq W395.size.symm)
  have lt399 : b166 < h395.size := Nat.lt_of_lt_of_le lt392 (Nat.le_of_eq W395.size.symm)
  have lt400 : b278 < h395.size := Nat.lt_of_lt_of_le lt393 (Nat.le_of_eq W395.size.symm)
  have Zs401 : n0 ≤ h395.size := Nat.le_trans Zs394 (Nat.le_of_eq W395.size.symm)
  show own_Go p e below s _ _ _ (T395.setTop (mkF m 286 #[.val (.int p1), .val (.int p2), .val (.int p3), .val (.ref b5), .val (.ref b166), .unset, .unset, .unset, .unset, .unset, .unset, .unset] [(.ref b278)]))
  refine own_st (fun _ kQ => XS.dup X395.here hx rfl (hb hby at_286) rfl rfl kQ) ?_
  show own_Go p e below s _ _ _ (T395.setTop (mkF m 287 #[.val (.int p1), .val (.int p2), .val (.int p3), .val (.ref b5), .val (.ref b166), .unset, .unset, .unset, .unset, .unset, .unset, .unset] [(.ref b278), (.ref b278)]))
  refine own_st (fun _ kQ => XT.bipushV X395.here hx rfl (16 : Int32) (hb hby at_287) (by decide) kQ) ?_
  show own_Go p e below s _ _ _ (T395.setTop (mkF m 289 #[.val (.int p1), .val (.int p2), .val (.int p3), .val (.ref b5), .val (.ref b166), .unset, .unset, .unset, .unset, .unset, .unset, .unset] [(.int (16 : Int32)), (.ref b278), (.ref b278)]))
  refine own_st (fun _ kQ => XT.iconstV X395.here hx rfl (3 : Int32) (hb hby at_289) (by decide) kQ) ?_
  show own_Go p e below s _ _ _ (T395.setTop (mkF m 290 #[.val (.int p1), .val (.int p2), .val (.int p3), .val (.ref b5), .val (.ref b166), .unset, .unset, .unset, .unset, .unset, .unset, .unset] [(.int (3 : Int32)), (.int (16 : Int32)), (.ref b278), (.ref b278)]))
  obtain ⟨cl402, Ar402, kc402, S402, Nn402, H402, G402⟩ := id F397
  have hin402 : ¬ ((16 : Int32) < 0 ∨ cl402.slots.size ≤ ((16 : Int32) : Int32).toNatClampNeg) := inb_of S402 (by decide)
  obtain ⟨T402, h402, X402, e402, W402, st402⟩ := stI X395 hx hZ e395 Ar402 (j := (16 : Int32)) hin402 (g := (mkF m 290 #[.val (.int p1), .val (.int p2), .val (.int p3), .val (.ref b5), .val (.ref b166), .unset, .unset, .unset, .unset, .unset, .unset, .unset] [(.int (3 : Int32)), (.int (16 : Int32)), (.ref b278), (.ref b278)])) rfl rfl (hb hby at_290)
  refine own_st st402 ?_
  have N403 := Fr.snoc X402 N396 g284
  have F404 : Arv Z h402 b278 k278 .int (17 : Int32) [(.int (7 : Int32)), (.int (11 : Int32)), (.int (2 : Int32)), (.int (4 : Int32)), (.int (7 : Int32)), (.int (7 : Int32)), (.int (2 : Int32)), (.int (5 : Int32)), (.int (3 : Int32)), (.int (1 : Int32)), (.int (3 : Int32)), (.int (3 : Int32)), (.int (4 : Int32)), (.int (0 : Int32)), (.int (0 : Int32)), (.int (1 : Int32)), (.int (3 : Int32))] (.int (0 : Int32)) := Arv.set Ar402 kc402 S402 Nn402 H402 G402 rfl W402 16 (by decide) (Nat.le_of_ble_eq_true rfl)
  have lt405 : b5 < h402.size := Nat.lt_of_lt_of_le lt398 (Nat.le_of_eq W402.size.symm)
  have lt406 : b166 < h402.size := Nat.lt_of_lt_of_le lt399 (Nat.le_of_eq W402.size.symm)
  have lt407 : b278 < h402.size := Nat.lt_of_lt_of_le lt400 (Nat.le_of_eq W402.size.symm)
  have Zs408 : n0 ≤ h402.size := Nat.le_trans Zs401 (Nat.le_of_eq W402.size.symm)
  show own_Go p e below s _ _ _ (T402.setTop (mkF m 291 #[.val (.int p1), .val (.int p2), .val (.int p3), .val (.ref b5), .val (.ref b166), .unset, .unset, .unset, .unset, .unset, .unset, .unset] [(.ref b278)]))
  refine own_st (fun _ kQ => XS.astore X402.here hx rfl (hb hby at_291) rfl rfl (l' := #[.val (.int p1), .val (.int p2), .val (.int p3), .val (.ref b5), .val (.ref b166), .val (.ref b278), .unset, .unset, .unset, .unset, .unset, .unset]) rfl kQ) ?_
  show own_Go p e below s _ _ _ (T402.setTop (mkF m 293 #[.val (.int p1), .val (.int p2), .val (.int p3), .val (.ref b5), .val (.ref b166), .val (.ref b278), .unset, .unset, .unset, .unset, .unset, .unset] []))
  refine own_st (fun _ kQ => XS.iloadN X402.here hx rfl (hb hby at_293) rfl kQ) ?_
  show own_Go p e below s _ _ _ (T402.setTop (mkF m 294 #[.val (.int p1), .val (.int p2), .val (.int p3), .val (.ref b5), .val (.ref b166), .val (.ref b278), .unset, .unset, .unset, .unset, .unset, .unset] [(.int p1)]))
  refine own_st (fun _ kQ => X402.ldcI hx hown (mvT hZ (hw _ (List.mem_of_getElem? (i := 39) rfl))) rfl (hb hby at_294) kQ) ?_
  show own_Go p e below s _ _ _ (T402.setTop (mkF m 296 #[.val (.int p1), .val (.int p2), .val (.int p3), .val (.ref b5), .val (.ref b166), .val (.ref b278), .unset, .unset, .unset, .unset, .unset, .unset] [(.int (2147483647 : Int32)), (.int p1)]))
  refine own_st (fun _ kQ => XS.iand X402.here hx rfl (hb hby at_296) rfl kQ) ?_
  show own_Go p e below s _ _ _ (T402.setTop (mkF m 297 #[.val (.int p1), .val (.int p2), .val (.int p3), .val (.ref b5), .val (.ref b166), .val (.ref b278), .unset, .unset, .unset, .unset, .unset, .unset] [(.int (p1 &&& (2147483647 : Int32)))]))
  refine own_st (fun _ kQ => XT.bipushV X402.here hx rfl (17 : Int32) (hb hby at_297) (by decide) kQ) ?_
  show own_Go p e below s _ _ _ (T402.setTop (mkF m 299 #[.val (.int p1), .val (.int p2), .val (.int p3), .val (.ref b5), .val (.ref b166), .val (.ref b278), .unset, .unset, .unset, .unset, .unset, .unset] [(.int (17 : Int32)), (.int (p1 &&& (2147483647 : Int32)))]))
  refine own_st (fun _ kQ => iremM X402 hx rfl (hb hby at_299) rfl (by decide) kQ) ?_
  show own_Go p e below s _ _ _ (T402.setTop (mkF m 300 #[.val (.int p1), .val (.int p2), .val (.int p3), .val (.ref b5), .val (.ref b166), .val (.ref b278), .unset, .unset, .unset, .unset, .unset, .unset] [(.int ((p1 &&& (2147483647 : Int32)) % (17 : Int32)))]))
  refine own_st (fun _ kQ => XS.istore X402.here hx rfl (hb hby at_300) rfl (l' := #[.val (.int p1), .val (.int p2), .val (.int p3), .val (.ref b5), .val (.ref b166), .val (.ref b278), .val (.int ((p1 &&& (2147483647 : Int32)) % (17 : Int32))), .unset, .unset, .unset, .unset, .unset]) rfl kQ) ?_
  show own_Go p e below s _ _ _ (T402.setTop (mkF m 302 #[.val (.int p1), .val (.int p2), .val (.int p3), .val (.ref b5), .val (.ref b166), .val (.ref b278), .val (.int ((p1 &&& (2147483647 : Int32)) % (17 : Int32))), .unset, .unset, .unset, .unset, .unset] []))
  refine own_st (fun _ kQ => XS.aload X402.here hx rfl (hb hby at_302) rfl rfl kQ) ?_
  show own_Go p e below s _ _ _ (T402.setTop (mkF m 304 #[.val (.int p1), .val (.int p2), .val (.int p3), .val (.ref b5), .val (.ref b166), .val (.ref b278), .val (.int ((p1 &&& (2147483647 : Int32)) % (17 : Int32))), .unset, .unset, .unset, .unset, .unset] [(.ref b166)]))
  refine own_st (fun _ kQ => XS.iload X402.here hx rfl (hb hby at_304) rfl kQ) ?_
  show own_Go p e below s _ _ _ (T402.setTop (mkF m 306 #[.val (.int p1), .val (.int p2), .val (.int p3), .val (.ref b5), .val (.ref b166), .val (.ref b278), .val (.int ((p1 &&& (2147483647 : Int32)) % (17 : Int32))), .unset, .unset, .unset, .unset, .unset] [(.int ((p1 &&& (2147483647 : Int32)) % (17 : Int32))), (.ref b166)]))
  have F409 : Arv Z h402 b166 k166 .int (17 : Int32) [(.int (3 : Int32)), (.int (4 : Int32)), (.int (1 : Int32)), (.int (0 : Int32)), (.int (0 : Int32)), (.int (0 : Int32)), (.int (0 : Int32)), (.int (0 : Int32)), (.int (0 : Int32)), (.int (0 : Int32)), (.int (0 : Int32)), (.int (0 : Int32)), (.int (0 : Int32)), (.int (0 : Int32)), (.int (0 : Int32)), (.int (0 : Int32)), (.int (0 : Int32))] (.int (0 : Int32)) := ((((((((((((((((((F274.ext E278).other W286 ne283).other W293 ne283).other W301 ne283).other W308 ne283).other W315 ne283).other W322 ne283).other W330 ne283).other W337 ne283).other W344 ne283).other W351 ne283).other W359 ne283).other W366 ne283).other W373 ne283).other W380 ne283).other W388 ne283).other W395 ne283).other W402 ne283)
  obtain ⟨cl410, Ar410, kc410, S410, Nn410, H410, G410⟩ := id F409
  have hin410 : ¬ (((p1 &&& (2147483647 : Int32)) % (17 : Int32)) < 0 ∨ cl410.slots.size ≤ (((p1 &&& (2147483647 : Int32)) % (17 : Int32)) : Int32).toNatClampNeg) := inb_of S410 (by rcases own_lits17 p1 with h | h | h | h | h | h | h | h | h | h | h | h | h | h | h | h | h <;> rw [h] <;> decide)
  have hat410 : cl410.slots[(((p1 &&& (2147483647 : Int32)) % (17 : Int32)) : Int32).toNatClampNeg]? = some (.int (own_mins ((p1 &&& (2147483647 : Int32)) % (17 : Int32)))) := H410.at hin410 (by rcases own_lits17 p1 with h | h | h | h | h | h | h | h | h | h | h | h | h | h | h | h | h <;> rw [h] <;> decide)
  refine own_st (fun _ kQ => X402.iaload hx (j := ((p1 &&& (2147483647 : Int32)) % (17 : Int32))) (v := (.int (own_mins ((p1 &&& (2147483647 : Int32)) % (17 : Int32))))) (own_hp e402 Ar410.1) (State.isArrayOf_alike hZ.alike Ar410.2.1) Ar410.2.2 hin410 hat410 (g := (mkF m 306 #[.val (.int p1), .val (.int p2), .val (.int p3), .val (.ref b5), .val (.ref b166), .val (.ref b278), .val (.int ((p1 &&& (2147483647 : Int32)) % (17 : Int32))), .unset, .unset, .unset, .unset, .unset] [(.int ((p1 &&& (2147483647 : Int32)) % (17 : Int32))), (.ref b166)])) rfl rfl (hb hby at_306) _ kQ) ?_
  show own_Go p e below s _ _ _ (T402.setTop (mkF m 307 #[.val (.int p1), .val (.int p2), .val (.int p3), .val (.ref b5), .val (.ref b166), .val (.ref b278), .val (.int ((p1 &&& (2147483647 : Int32)) % (17 : Int32))), .unset, .unset, .unset, .unset, .unset] [(.int (own_mins ((p1 &&& (2147483647 : Int32)) % (17 : Int32))))]))
  refine own_st (fun _ kQ => XS.istore X402.here hx rfl (hb hby at_307) rfl (l' := #[.val (.int p1), .val (.int p2), .val (.int p3), .val (.ref b5), .val (.ref b166), .val (.ref b278), .val (.int ((p1 &&& (2147483647 : Int32)) % (17 : Int32))), .val (.int (own_mins ((p1 &&& (2147483647 : Int32)) % (17 : Int32)))), .unset, .unset, .unset, .unset]) rfl kQ) ?_
  show own_Go p e below s _ _ _ (T402.setTop (mkF m 309 #[.val (.int p1), .val (.int p2), .val (.int p3), .val (.ref b5), .val (.ref b166), .val (.ref b278), .val (.int ((p1 &&& (2147483647 : Int32)) % (17 : Int32))), .val (.int (own_mins ((p1 &&& (2147483647 : Int32)) % (17 : Int32)))), .unset, .unset, .unset, .unset] []))
  refine own_st (fun _ kQ => XS.aload X402.here hx rfl (hb hby at_309) rfl rfl kQ) ?_
  show own_Go p e below s _ _ _ (T402.setTop (mkF m 311 #[.val (.int p1), .val (.int p2), .val (.int p3), .val (.ref b5), .val (.ref b166), .val (.ref b278), .val (.int ((p1 &&& (2147483647 : Int32)) % (17 : Int32))), .val (.int (own_mins ((p1 &&& (2147483647 : Int32)) % (17 : Int32)))), .unset, .unset, .unset, .unset] [(.ref b278)]))
  refine own_st (fun _ kQ => XS.iload X402.here hx rfl (hb hby at_311) rfl kQ) ?_
  show own_Go p e below s _ _ _ (T402.setTop (mkF m 313 #[.val (.int p1), .val (.int p2), .val (.int p3), .val (.ref b5), .val (.ref b166), .val (.ref b278), .val (.int ((p1 &&& (2147483647 : Int32)) % (17 : Int32))), .val (.int (own_mins ((p1 &&& (2147483647 : Int32)) % (17 : Int32)))), .unset, .unset, .unset, .unset] [(.int ((p1 &&& (2147483647 : Int32)) % (17 : Int32))), (.ref b278)]))
  obtain ⟨cl411, Ar411, kc411, S411, Nn411, H411, G411⟩ := id F404
  have hin411 : ¬ (((p1 &&& (2147483647 : Int32)) % (17 : Int32)) < 0 ∨ cl411.slots.size ≤ (((p1 &&& (2147483647 : Int32)) % (17 : Int32)) : Int32).toNatClampNeg) := inb_of S411 (by rcases own_lits17 p1 with h | h | h | h | h | h | h | h | h | h | h | h | h | h | h | h | h <;> rw [h] <;> decide)
  have hat411 : cl411.slots[(((p1 &&& (2147483647 : Int32)) % (17 : Int32)) : Int32).toNatClampNeg]? = some (.int (own_maxs ((p1 &&& (2147483647 : Int32)) % (17 : Int32)))) := H411.at hin411 (by rcases own_lits17 p1 with h | h | h | h | h | h | h | h | h | h | h | h | h | h | h | h | h <;> rw [h] <;> decide)
  refine own_st (fun _ kQ => X402.iaload hx (j := ((p1 &&& (2147483647 : Int32)) % (17 : Int32))) (v := (.int (own_maxs ((p1 &&& (2147483647 : Int32)) % (17 : Int32))))) (own_hp e402 Ar411.1) (State.isArrayOf_alike hZ.alike Ar411.2.1) Ar411.2.2 hin411 hat411 (g := (mkF m 313 #[.val (.int p1), .val (.int p2), .val (.int p3), .val (.ref b5), .val (.ref b166), .val (.ref b278), .val (.int ((p1 &&& (2147483647 : Int32)) % (17 : Int32))), .val (.int (own_mins ((p1 &&& (2147483647 : Int32)) % (17 : Int32)))), .unset, .unset, .unset, .unset] [(.int ((p1 &&& (2147483647 : Int32)) % (17 : Int32))), (.ref b278)])) rfl rfl (hb hby at_313) _ kQ) ?_
  show own_Go p e below s _ _ _ (T402.setTop (mkF m 314 #[.val (.int p1), .val (.int p2), .val (.int p3), .val (.ref b5), .val (.ref b166), .val (.ref b278), .val (.int ((p1 &&& (2147483647 : Int32)) % (17 : Int32))), .val (.int (own_mins ((p1 &&& (2147483647 : Int32)) % (17 : Int32)))), .unset, .unset, .unset, .unset] [(.int (own_maxs ((p1 &&& (2147483647 : Int32)) % (17 : Int32))))]))
  refine own_st (fun _ kQ => XS.istore X402.here hx rfl (hb hby at_314) rfl (l' := #[.val (.int p1), .val (.int p2), .val (.int p3), .val (.ref b5), .val (.ref b166), .val (.ref b278), .val (.int ((p1 &&& (2147483647 : Int32)) % (17 : Int32))), .val (.int (own_mins ((p1 &&& (2147483647 : Int32)) % (17 : Int32)))), .val (.int (own_maxs ((p1 &&& (2147483647 : Int32)) % (17 : Int32)))), .unset, .unset, .unset]) rfl kQ) ?_
  show own_Go p e below s _ _ _ (T402.setTop (mkF m 316 #[.val (.int p1), .val (.int p2), .val (.int p3), .val (.ref b5), .val (.ref b166), .val (.ref b278), .val (.int ((p1 &&& (2147483647 : Int32)) % (17 : Int32))), .val (.int (own_mins ((p1 &&& (2147483647 : Int32)) % (17 : Int32)))), .val (.int (own_maxs ((p1 &&& (2147483647 : Int32)) % (17 : Int32)))), .unset, .unset, .unset] []))
  refine own_st (fun _ kQ => XS.iloadN X402.here hx rfl (hb hby at_316) rfl kQ) ?_
  show own_Go p e below s _ _ _ (T402.setTop (mkF m 317 #[.val (.int p1), .val (.int p2), .val (.int p3), .val (.ref b5), .val (.ref b166), .val (.ref b278), .val (.int ((p1 &&& (2147483647 : Int32)) % (17 : Int32))), .val (.int (own_mins ((p1 &&& (2147483647 : Int32)) % (17 : Int32)))), .val (.int (own_maxs ((p1 &&& (2147483647 : Int32)) % (17 : Int32)))), .unset, .unset, .unset] [(.int p3)]))
  refine own_st (fun _ kQ => XT.iconstV X402.here hx rfl (1 : Int32) (hb hby at_317) (by decide) kQ) ?_
  show own_Go p e below s _ _ _ (T402.setTop (mkF m 318 #[.val (.int p1), .val (.int p2), .val (.int p3), .val (.ref b5), .val (.ref b166), .val (.ref b278), .val (.int ((p1 &&& (2147483647 : Int32)) % (17 : Int32))), .val (.int (own_mins ((p1 &&& (2147483647 : Int32)) % (17 : Int32)))), .val (.int (own_maxs ((p1 &&& (2147483647 : Int32)) % (17 : Int32)))), .unset, .unset, .unset] [(.int (1 : Int32)), (.int p3)]))
  refine own_st (fun _ kQ => XS.iand X402.here hx rfl (hb hby at_318) rfl kQ) ?_
  show own_Go p e below s _ _ _ (T402.setTop (mkF m 319 #[.val (.int p1), .val (.int p2), .val (.int p3), .val (.ref b5), .val (.ref b166), .val (.ref b278), .val (.int ((p1 &&& (2147483647 : Int32)) % (17 : Int32))), .val (.int (own_mins ((p1 &&& (2147483647 : Int32)) % (17 : Int32)))), .val (.int (own_maxs ((p1 &&& (2147483647 : Int32)) % (17 : Int32)))), .unset, .unset, .unset] [(.int (p3 &&& (1 : Int32)))]))
  by_cases hc412 : (p3 &&& (1 : Int32)) = 0
  · refine own_st (fun _ kQ => XS.ifYes X402.here hx rfl (pc0 := 319) (pc' := 329) rfl (hb hby at_319) rfl (XT.i0_eq_t hc412) (by decide) (by decide) kQ) ?_
    show own_Go p e below s _ _ _ (T402.setTop (mkF m 329 #[.val (.int p1), .val (.int p2), .val (.int p3), .val (.ref b5), .val (.ref b166), .val (.ref b278), .val (.int ((p1 &&& (2147483647 : Int32)) % (17 : Int32))), .val (.int (own_mins ((p1 &&& (2147483647 : Int32)) % (17 : Int32)))), .val (.int (own_maxs ((p1 &&& (2147483647 : Int32)) % (17 : Int32)))), .unset, .unset, .unset] []))
    refine own_st (fun _ kQ => XS.iload X402.here hx rfl (hb hby at_329) rfl kQ) ?_
    show own_Go p e below s _ _ _ (T402.setTop (mkF m 331 #[.val (.int p1), .val (.int p2), .val (.int p3), .val (.ref b5), .val (.ref b166), .val (.ref b278), .val (.int ((p1 &&& (2147483647 : Int32)) % (17 : Int32))), .val (.int (own_mins ((p1 &&& (2147483647 : Int32)) % (17 : Int32)))), .val (.int (own_maxs ((p1 &&& (2147483647 : Int32)) % (17 : Int32)))), .unset, .unset, .unset] [(.int (own_mins ((p1 &&& (2147483647 : Int32)) % (17 : Int32))))]))
    refine own_st (fun _ kQ => XT.iconstV X402.here hx rfl (2 : Int32) (hb hby at_331) (by decide) kQ) ?_
    show own_Go p e below s _ _ _ (T402.setTop (mkF m 332 #[.val (.int p1), .val (.int p2), .val (.int p3), .val (.ref b5), .val (.ref b166), .val (.ref b278), .val (.int ((p1 &&& (2147483647 : Int32)) % (17 : Int32))), .val (.int (own_mins ((p1 &&& (2147483647 : Int32)) % (17 : Int32)))), .val (.int (own_maxs ((p1 &&& (2147483647 : Int32)) % (17 : Int32)))), .unset, .unset, .unset] [(.int (2 : Int32)), (.int (own_mins ((p1 &&& (2147483647 : Int32)) % (17 : Int32))))]))
    refine own_st (fun _ kQ => XS.isub X402.here hx rfl (hb hby at_332) rfl kQ) ?_
    show own_Go p e below s _ _ _ (T402.setTop (mkF m 333 #[.val (.int p1), .val (.int p2), .val (.int p3), .val (.ref b5), .val (.ref b166), .val (.ref b278), .val (.int ((p1 &&& (2147483647 : Int32)) % (17 : Int32))), .val (.int (own_mins ((p1 &&& (2147483647 : Int32)) % (17 : Int32)))), .val (.int (own_maxs ((p1 &&& (2147483647 : Int32)) % (17 : Int32)))), .unset, .unset, .unset] [(.int ((own_mins ((p1 &&& (2147483647 : Int32)) % (17 : Int32))) - (2 : Int32)))]))
    refine own_st (fun _ kQ => XS.iloadN X402.here hx rfl (hb hby at_333) rfl kQ) ?_
    show own_Go p e below s _ _ _ (T402.setTop (mkF m 334 #[.val (.int p1), .val (.int p2), .val (.int p3), .val (.ref b5), .val (.ref b166), .val (.ref b278), .val (.int ((p1 &&& (2147483647 : Int32)) % (17 : Int32))), .val (.int (own_mins ((p1 &&& (2147483647 : Int32)) % (17 : Int32)))), .val (.int (own_maxs ((p1 &&& (2147483647 : Int32)) % (17 : Int32)))), .unset, .unset, .unset] [(.int p2), (.int ((own_mins ((p1 &&& (2147483647 : Int32)) % (17 : Int32))) - (2 : Int32)))]))
    refine own_st (fun _ kQ => X402.ldcI hx hown (mvT hZ (hw _ (List.mem_of_getElem? (i := 39) rfl))) rfl (hb hby at_334) kQ) ?_
    show own_Go p e below s _ _ _ (T402.setTop (mkF m 336 #[.val (.int p1), .val (.int p2), .val (.int p3), .val (.ref b5), .val (.ref b166), .val (.ref b278), .val (.int ((p1 &&& (2147483647 : Int32)) % (17 : Int32))), .val (.int (own_mins ((p1 &&& (2147483647 : Int32)) % (17 : Int32)))), .val (.int (own_maxs ((p1 &&& (2147483647 : Int32)) % (17 : Int32)))), .unset, .unset, .unset] [(.int (2147483647 : Int32)), (.int p2), (.int ((own_mins ((p1 &&& (2147483647 : Int32)) % (17 : Int32))) - (2 : Int32)))]))
    refine own_st (fun _ kQ => XS.iand X402.here hx rfl (hb hby at_336) rfl kQ) ?_
    show own_Go p e below s _ _ _ (T402.setTop (mkF m 337 #[.val (.int p1), .val (.int p2), .val (.int p3), .val (.ref b5), .val (.ref b166), .val (.ref b278), .val (.int ((p1 &&& (2147483647 : Int32)) % (17 : Int32))), .val (.int (own_mins ((p1 &&& (2147483647 : Int32)) % (17 : Int32)))), .val (.int (own_maxs ((p1 &&& (2147483647 : Int32)) % (17 : Int32)))), .unset, .unset, .unset] [(.int (p2 &&& (2147483647 : Int32))), (.int ((own_mins ((p1 &&& (2147483647 : Int32)) % (17 : Int32))) - (2 : Int32)))]))
    refine own_st (fun _ kQ => XS.iload X402.here hx rfl (hb hby at_337) rfl kQ) ?_
    show own_Go p e below s _ _ _ (T402.setTop (mkF m 339 #[.val (.int p1), .val (.int p2), .val (.int p3), .val (.ref b5), .val (.ref b166), .val (.ref b278), .val (.int ((p1 &&& (2147483647 : Int32)) % (17 : Int32))), .val (.int (own_mins ((p1 &&& (2147483647 : Int32)) % (17 : Int32)))), .val (.int (own_maxs ((p1 &&& (2147483647 : Int32)) % (17 : Int32)))), .unset, .unset, .unset] [(.int (own_maxs ((p1 &&& (2147483647 : Int32)) % (17 : Int32)))), (.int (p2 &&& (2147483647 : Int32))), (.int ((own_mins ((p1 &&& (2147483647 : Int32)) % (17 : Int32))) - (2 : Int32)))]))
    refine own_st (fun _ kQ => XS.iload X402.here hx rfl (hb hby at_339) rfl kQ) ?_
    show own_Go p e below s _ _ _ (T402.setTop (mkF m 341 #[.val (.int p1), .val (.int p2), .val (.int p3), .val (.ref b5), .val (.ref b166), .val (.ref b278), .val (.int ((p1 &&& (2147483647 : Int32)) % (17 : Int32))), .val (.int (own_mins ((p1 &&& (2147483647 : Int32)) % (17 : Int32)))), .val (.int (own_maxs ((p1 &&& (2147483647 : Int32)) % (17 : Int32)))), .unset, .unset, .unset] [(.int (own_mins ((p1 &&& (2147483647 : Int32)) % (17 : Int32)))), (.int (own_maxs ((p1 &&& (2147483647 : Int32)) % (17 : Int32)))), (.int (p2 &&& (2147483647 : Int32))), (.int ((own_mins ((p1 &&& (2147483647 : Int32)) % (17 : Int32))) - (2 : Int32)))]))
    refine own_st (fun _ kQ => XS.isub X402.here hx rfl (hb hby at_341) rfl kQ) ?_
    show own_Go p e below s _ _ _ (T402.setTop (mkF m 342 #[.val (.int p1), .val (.int p2), .val (.int p3), .val (.ref b5), .val (.ref b166), .val (.ref b278), .val (.int ((p1 &&& (2147483647 : Int32)) % (17 : Int32))), .val (.int (own_mins ((p1 &&& (2147483647 : Int32)) % (17 : Int32)))), .val (.int (own_maxs ((p1 &&& (2147483647 : Int32)) % (17 : Int32)))), .unset, .unset, .unset] [(.int ((own_maxs ((p1 &&& (2147483647 : Int32)) % (17 : Int32))) - (own_mins ((p1 &&& (2147483647 : Int32)) % (17 : Int32))))), (.int (p2 &&& (2147483647 : Int32))), (.int ((own_mins ((p1 &&& (2147483647 : Int32)) % (17 : Int32))) - (2 : Int32)))]))
    refine own_st (fun _ kQ => XT.iconstV X402.here hx rfl (5 : Int32) (hb hby at_342) (by decide) kQ) ?_
    show own_Go p e below s _ _ _ (T402.setTop (mkF m 343 #[.val (.int p1), .val (.int p2), .val (.int p3), .val (.ref b5), .val (.ref b166), .val (.ref b278), .val (.int ((p1 &&& (2147483647 : Int32)) % (17 : Int32))), .val (.int (own_mins ((p1 &&& (2147483647 : Int32)) % (17 : Int32)))), .val (.int (own_maxs ((p1 &&& (2147483647 : Int32)) % (17 : Int32)))), .unset, .unset, .unset] [(.int (5 : Int32)), (.int ((own_maxs ((p1 &&& (2147483647 : Int32)) % (17 : Int32))) - (own_mins ((p1 &&& (2147483647 : Int32)) % (17 : Int32))))), (.int (p2 &&& (2147483647 : Int32))), (.int ((own_mins ((p1 &&& (2147483647 : Int32)) % (17 : Int32))) - (2 : Int32)))]))
    refine own_st (fun _ kQ => XS.iadd X402.here hx rfl (hb hby at_343) rfl kQ) ?_
    show own_Go p e below s _ _ _ (T402.setTop (mkF m 344 #[.val (.int p1), .val (.int p2), .val (.int p3), .val (.ref b5), .val (.ref b166), .val (.ref b278), .val (.int ((p1 &&& (2147483647 : Int32)) % (17 : Int32))), .val (.int (own_mins ((p1 &&& (2147483647 : Int32)) % (17 : Int32)))), .val (.int (own_maxs ((p1 &&& (2147483647 : Int32)) % (17 : Int32)))), .unset, .unset, .unset] [(.int (((own_maxs ((p1 &&& (2147483647 : Int32)) % (17 : Int32))) - (own_mins ((p1 &&& (2147483647 : Int32)) % (17 : Int32)))) + (5 : Int32))), (.int (p2 &&& (2147483647 : Int32))), (.int ((own_mins ((p1 &&& (2147483647 : Int32)) % (17 : Int32))) - (2 : Int32)))]))
    refine own_st (fun _ kQ => iremM X402 hx rfl (hb hby at_344) rfl (by rcases own_lits17 p1 with h | h | h | h | h | h | h | h | h | h | h | h | h | h | h | h | h <;> rw [h] <;> decide) kQ) ?_
    show own_Go p e below s _ _ _ (T402.setTop (mkF m 345 #[.val (.int p1), .val (.int p2), .val (.int p3), .val (.ref b5), .val (.ref b166), .val (.ref b278), .val (.int ((p1 &&& (2147483647 : Int32)) % (17 : Int32))), .val (.int (own_mins ((p1 &&& (2147483647 : Int32)) % (17 : Int32)))), .val (.int (own_maxs ((p1 &&& (2147483647 : Int32)) % (17 : Int32)))), .unset, .unset, .unset] [(.int ((p2 &&& (2147483647 : Int32)) % (((own_maxs ((p1 &&& (2147483647 : Int32)) % (17 : Int32))) - (own_mins ((p1 &&& (2147483647 : Int32)) % (17 : Int32)))) + (5 : Int32)))), (.int ((own_mins ((p1 &&& (2147483647 : Int32)) % (17 : Int32))) - (2 : Int32)))]))
    refine own_st (fun _ kQ => XS.iadd X402.here hx rfl (hb hby at_345) rfl kQ) ?_
    show own_Go p e below s _ _ _ (T402.setTop (mkF m 346 #[.val (.int p1), .val (.int p2), .val (.int p3), .val (.ref b5), .val (.ref b166), .val (.ref b278), .val (.int ((p1 &&& (2147483647 : Int32)) % (17 : Int32))), .val (.int (own_mins ((p1 &&& (2147483647 : Int32)) % (17 : Int32)))), .val (.int (own_maxs ((p1 &&& (2147483647 : Int32)) % (17 : Int32)))), .unset, .unset, .unset] [(.int (((own_mins ((p1 &&& (2147483647 : Int32)) % (17 : Int32))) - (2 : Int32)) + ((p2 &&& (2147483647 : Int32)) % (((own_maxs ((p1 &&& (2147483647 : Int32)) % (17 : Int32))) - (own_mins ((p1 &&& (2147483647 : Int32)) % (17 : Int32)))) + (5 : Int32)))))]))
    refine own_st (fun _ kQ => XT.i2s X402.here hx rfl (hb hby at_346) rfl kQ) ?_
    show own_Go p e below s _ _ _ (T402.setTop (mkF m 347 #[.val (.int p1), .val (.int p2), .val (.int p3), .val (.ref b5), .val (.ref b166), .val (.ref b278), .val (.int ((p1 &&& (2147483647 : Int32)) % (17 : Int32))), .val (.int (own_mins ((p1 &&& (2147483647 : Int32)) % (17 : Int32)))), .val (.int (own_maxs ((p1 &&& (2147483647 : Int32)) % (17 : Int32)))), .unset, .unset, .unset] [(.int ((((own_mins ((p1 &&& (2147483647 : Int32)) % (17 : Int32))) - (2 : Int32)) + ((p2 &&& (2147483647 : Int32)) % (((own_maxs ((p1 &&& (2147483647 : Int32)) % (17 : Int32))) - (own_mins ((p1 &&& (2147483647 : Int32)) % (17 : Int32)))) + (5 : Int32)))).toInt16.toInt32))]))
    refine own_st (fun _ kQ => XS.istore X402.here hx rfl (hb hby at_347) rfl (l' := #[.val (.int p1), .val (.int p2), .val (.int p3), .val (.ref b5), .val (.ref b166), .val (.ref b278), .val (.int ((p1 &&& (2147483647 : Int32)) % (17 : Int32))), .val (.int (own_mins ((p1 &&& (2147483647 : Int32)) % (17 : Int32)))), .val (.int (own_maxs ((p1 &&& (2147483647 : Int32)) % (17 : Int32)))), .val (.int ((((own_mins ((p1 &&& (2147483647 : Int32)) % (17 : Int32))) - (2 : Int32)) + ((p2 &&& (2147483647 : Int32)) % (((own_maxs ((p1 &&& (2147483647 : Int32)) % (17 : Int32))) - (own_mins ((p1 &&& (2147483647 : Int32)) % (17 : Int32)))) + (5 : Int32)))).toInt16.toInt32)), .unset, .unset]) rfl kQ) ?_
    show own_Go p e below s _ _ _ (T402.setTop (mkF m 349 #[.val (.int p1), .val (.int p2), .val (.int p3), .val (.ref b5), .val (.ref b166), .val (.ref b278), .val (.int ((p1 &&& (2147483647 : Int32)) % (17 : Int32))), .val (.int (own_mins ((p1 &&& (2147483647 : Int32)) % (17 : Int32)))), .val (.int (own_maxs ((p1 &&& (2147483647 : Int32)) % (17 : Int32)))), .val (.int ((((own_mins ((p1 &&& (2147483647 : Int32)) % (17 : Int32))) - (2 : Int32)) + ((p2 &&& (2147483647 : Int32)) % (((own_maxs ((p1 &&& (2147483647 : Int32)) % (17 : Int32))) - (own_mins ((p1 &&& (2147483647 : Int32)) % (17 : Int32)))) + (5 : Int32)))).toInt16.toInt32)), .unset, .unset] []))
    refine own_st (fun _ kQ => XS.iload X402.here hx rfl (hb hby at_349) rfl kQ) ?_
    show own_Go p e below s _ _ _ (T402.setTop (mkF m 351 #[.val (.int p1), .val (.int p2), .val (.int p3), .val (.ref b5), .val (.ref b166), .val (.ref b278), .val (.int ((p1 &&& (2147483647 : Int32)) % (17 : Int32))), .val (.int (own_mins ((p1 &&& (2147483647 : Int32)) % (17 : Int32)))), .val (.int (own_maxs ((p1 &&& (2147483647 : Int32)) % (17 : Int32)))), .val (.int ((((own_mins ((p1 &&& (2147483647 : Int32)) % (17 : Int32))) - (2 : Int32)) + ((p2 &&& (2147483647 : Int32)) % (((own_maxs ((p1 &&& (2147483647 : Int32)) % (17 : Int32))) - (own_mins ((p1 &&& (2147483647 : Int32)) % (17 : Int32)))) + (5 : Int32)))).toInt16.toInt32)), .unset, .unset] [(.int ((((own_mins ((p1 &&& (2147483647 : Int32)) % (17 : Int32))) - (2 : Int32)) + ((p2 &&& (2147483647 : Int32)) % (((own_maxs ((p1 &&& (2147483647 : Int32)) % (17 : Int32))) - (own_mins ((p1 &&& (2147483647 : Int32)) % (17 : Int32)))) + (5 : Int32)))).toInt16.toInt32))]))
    refine own_st (fun _ kQ => XS.istore X402.here hx rfl (hb hby at_351) rfl (l' := #[.val (.int p1), .val (.int p2), .val (.int p3), .val (.ref b5), .val (.ref b166), .val (.ref b278), .val (.int ((p1 &&& (2147483647 : Int32)) % (17 : Int32))), .val (.int (own_mins ((p1 &&& (2147483647 : Int32)) % (17 : Int32)))), .val (.int (own_maxs ((p1 &&& (2147483647 : Int32)) % (17 : Int32)))), .val (.int ((((own_mins ((p1 &&& (2147483647 : Int32)) % (17 : Int32))) - (2 : Int32)) + ((p2 &&& (2147483647 : Int32)) % (((own_maxs ((p1 &&& (2147483647 : Int32)) % (17 : Int32))) - (own_mins ((p1 &&& (2147483647 : Int32)) % (17 : Int32)))) + (5 : Int32)))).toInt16.toInt32)), .val (.int ((((own_mins ((p1 &&& (2147483647 : Int32)) % (17 : Int32))) - (2 : Int32)) + ((p2 &&& (2147483647 : Int32)) % (((own_maxs ((p1 &&& (2147483647 : Int32)) % (17 : Int32))) - (own_mins ((p1 &&& (2147483647 : Int32)) % (17 : Int32)))) + (5 : Int32)))).toInt16.toInt32)), .unset]) rfl kQ) ?_
    show own_Go p e below s _ _ _ (T402.setTop (mkF m 353 #[.val (.int p1), .val (.int p2), .val (.int p3), .val (.ref b5), .val (.ref b166), .val (.ref b278), .val (.int ((p1 &&& (2147483647 : Int32)) % (17 : Int32))), .val (.int (own_mins ((p1 &&& (2147483647 : Int32)) % (17 : Int32)))), .val (.int (own_maxs ((p1 &&& (2147483647 : Int32)) % (17 : Int32)))), .val (.int ((((own_mins ((p1 &&& (2147483647 : Int32)) % (17 : Int32))) - (2 : Int32)) + ((p2 &&& (2147483647 : Int32)) % (((own_maxs ((p1 &&& (2147483647 : Int32)) % (17 : Int32))) - (own_mins ((p1 &&& (2147483647 : Int32)) % (17 : Int32)))) + (5 : Int32)))).toInt16.toInt32)), .val (.int ((((own_mins ((p1 &&& (2147483647 : Int32)) % (17 : Int32))) - (2 : Int32)) + ((p2 &&& (2147483647 : Int32)) % (((own_maxs ((p1 &&& (2147483647 : Int32)) % (17 : Int32))) - (own_mins ((p1 &&& (2147483647 : Int32)) % (17 : Int32)))) + (5 : Int32)))).toInt16.toInt32)), .unset] []))
    refine own_st (fun _ kQ => XS.iload X402.here hx rfl (hb hby at_353) rfl kQ) ?_
    show own_Go p e below s _ _ _ (T402.setTop (mkF m 355 #[.val (.int p1), .val (.int p2), .val (.int p3), .val (.ref b5), .val (.ref b166), .val (.ref b278), .val (.int ((p1 &&& (2147483647 : Int32)) % (17 : Int32))), .val (.int (own_mins ((p1 &&& (2147483647 : Int32)) % (17 : Int32)))), .val (.int (own_maxs ((p1 &&& (2147483647 : Int32)) % (17 : Int32)))), .val (.int ((((own_mins ((p1 &&& (2147483647 : Int32)) % (17 : Int32))) - (2 : Int32)) + ((p2 &&& (2147483647 : Int32)) % (((own_maxs ((p1 &&& (2147483647 : Int32)) % (17 : Int32))) - (own_mins ((p1 &&& (2147483647 : Int32)) % (17 : Int32)))) + (5 : Int32)))).toInt16.toInt32)), .val (.int ((((own_mins ((p1 &&& (2147483647 : Int32)) % (17 : Int32))) - (2 : Int32)) + ((p2 &&& (2147483647 : Int32)) % (((own_maxs ((p1 &&& (2147483647 : Int32)) % (17 : Int32))) - (own_mins ((p1 &&& (2147483647 : Int32)) % (17 : Int32)))) + (5 : Int32)))).toInt16.toInt32)), .unset] [(.int ((((own_mins ((p1 &&& (2147483647 : Int32)) % (17 : Int32))) - (2 : Int32)) + ((p2 &&& (2147483647 : Int32)) % (((own_maxs ((p1 &&& (2147483647 : Int32)) % (17 : Int32))) - (own_mins ((p1 &&& (2147483647 : Int32)) % (17 : Int32)))) + (5 : Int32)))).toInt16.toInt32))]))
    refine own_st (fun _ kQ => XS.iload X402.here hx rfl (hb hby at_355) rfl kQ) ?_
    show own_Go p e below s _ _ _ (T402.setTop (mkF m 357 #[.val (.int p1), .val (.int p2), .val (.int p3), .val (.ref b5), .val (.ref b166), .val (.ref b278), .val (.int ((p1 &&& (2147483647 : Int32)) % (17 : Int32))), .val (.int (own_mins ((p1 &&& (2147483647 : Int32)) % (17 : Int32)))), .val (.int (own_maxs ((p1 &&& (2147483647 : Int32)) % (17 : Int32)))), .val (.int ((((own_mins ((p1 &&& (2147483647 : Int32)) % (17 : Int32))) - (2 : Int32)) + ((p2 &&& (2147483647 : Int32)) % (((own_maxs ((p1 &&& (2147483647 : Int32)) % (17 : Int32))) - (own_mins ((p1 &&& (2147483647 : Int32)) % (17 : Int32)))) + (5 : Int32)))).toInt16.toInt32)), .val (.int ((((own_mins ((p1 &&& (2147483647 : Int32)) % (17 : Int32))) - (2 : Int32)) + ((p2 &&& (2147483647 : Int32)) % (((own_maxs ((p1 &&& (2147483647 : Int32)) % (17 : Int32))) - (own_mins ((p1 &&& (2147483647 : Int32)) % (17 : Int32)))) + (5 : Int32)))).toInt16.toInt32)), .unset] [(.int (own_mins ((p1 &&& (2147483647 : Int32)) % (17 : Int32)))), (.int ((((own_mins ((p1 &&& (2147483647 : Int32)) % (17 : Int32))) - (2 : Int32)) + ((p2 &&& (2147483647 : Int32)) % (((own_maxs ((p1 &&& (2147483647 : Int32)) % (17 : Int32))) - (own_mins ((p1 &&& (2147483647 : Int32)) % (17 : Int32)))) + (5 : Int32)))).toInt16.toInt32))]))
    by_cases hc413 : ((((own_mins ((p1 &&& (2147483647 : Int32)) % (17 : Int32))) - (2 : Int32)) + ((p2 &&& (2147483647 : Int32)) % (((own_maxs ((p1 &&& (2147483647 : Int32)) % (17 : Int32))) - (own_mins ((p1 &&& (2147483647 : Int32)) % (17 : Int32)))) + (5 : Int32)))).toInt16.toInt32) < (own_mins ((p1 &&& (2147483647 : Int32)) % (17 : Int32)))
    · refine own_st (fun _ kQ => XS.icmpYes X402.here hx rfl (pc0 := 357) (pc' := 371) rfl (hb hby at_357) rfl (XT.ii_lt_t hc413) (by decide) (by decide) kQ) ?_
      show own_Go p e below s _ _ _ (T402.setTop (mkF m 371 #[.val (.int p1), .val (.int p2), .val (.int p3), .val (.ref b5), .val (.ref b166), .val (.ref b278), .val (.int ((p1 &&& (2147483647 : Int32)) % (17 : Int32))), .val (.int (own_mins ((p1 &&& (2147483647 : Int32)) % (17 : Int32)))), .val (.int (own_maxs ((p1 &&& (2147483647 : Int32)) % (17 : Int32)))), .val (.int ((((own_mins ((p1 &&& (2147483647 : Int32)) % (17 : Int32))) - (2 : Int32)) + ((p2 &&& (2147483647 : Int32)) % (((own_maxs ((p1 &&& (2147483647 : Int32)) % (17 : Int32))) - (own_mins ((p1 &&& (2147483647 : Int32)) % (17 : Int32)))) + (5 : Int32)))).toInt16.toInt32)), .val (.int ((((own_mins ((p1 &&& (2147483647 : Int32)) % (17 : Int32))) - (2 : Int32)) + ((p2 &&& (2147483647 : Int32)) % (((own_maxs ((p1 &&& (2147483647 : Int32)) % (17 : Int32))) - (own_mins ((p1 &&& (2147483647 : Int32)) % (17 : Int32)))) + (5 : Int32)))).toInt16.toInt32)), .unset] []))
      refine own_st (fun _ kQ => XT.iconstV X402.here hx rfl (0 : Int32) (hb hby at_371) (by decide) kQ) ?_
      show own_Go p e below s _ _ _ (T402.setTop (mkF m 372 #[.val (.int p1), .val (.int p2), .val (.int p3), .val (.ref b5), .val (.ref b166), .val (.ref b278), .val (.int ((p1 &&& (2147483647 : Int32)) % (17 : Int32))), .val (.int (own_mins ((p1 &&& (2147483647 : Int32)) % (17 : Int32)))), .val (.int (own_maxs ((p1 &&& (2147483647 : Int32)) % (17 : Int32)))), .val (.int ((((own_mins ((p1 &&& (2147483647 : Int32)) % (17 : Int32))) - (2 : Int32)) + ((p2 &&& (2147483647 : Int32)) % (((own_maxs ((p1 &&& (2147483647 : Int32)) % (17 : Int32))) - (own_mins ((p1 &&& (2147483647 : Int32)) % (17 : Int32)))) + (5 : Int32)))).toInt16.toInt32)), .val (.int ((((own_mins ((p1 &&& (2147483647 : Int32)) % (17 : Int32))) - (2 : Int32)) + ((p2 &&& (2147483647 : Int32)) % (((own_maxs ((p1 &&& (2147483647 : Int32)) % (17 : Int32))) - (own_mins ((p1 &&& (2147483647 : Int32)) % (17 : Int32)))) + (5 : Int32)))).toInt16.toInt32)), .unset] [(.int (0 : Int32))]))
      refine own_st (fun _ kQ => XS.istore X402.here hx rfl (hb hby at_372) rfl (l' := #[.val (.int p1), .val (.int p2), .val (.int p3), .val (.ref b5), .val (.ref b166), .val (.ref b278), .val (.int ((p1 &&& (2147483647 : Int32)) % (17 : Int32))), .val (.int (own_mins ((p1 &&& (2147483647 : Int32)) % (17 : Int32)))), .val (.int (own_maxs ((p1 &&& (2147483647 : Int32)) % (17 : Int32)))), .val (.int ((((own_mins ((p1 &&& (2147483647 : Int32)) % (17 : Int32))) - (2 : Int32)) + ((p2 &&& (2147483647 : Int32)) % (((own_maxs ((p1 &&& (2147483647 : Int32)) % (17 : Int32))) - (own_mins ((p1 &&& (2147483647 : Int32)) % (17 : Int32)))) + (5 : Int32)))).toInt16.toInt32)), .val (.int ((((own_mins ((p1 &&& (2147483647 : Int32)) % (17 : Int32))) - (2 : Int32)) + ((p2 &&& (2147483647 : Int32)) % (((own_maxs ((p1 &&& (2147483647 : Int32)) % (17 : Int32))) - (own_mins ((p1 &&& (2147483647 : Int32)) % (17 : Int32)))) + (5 : Int32)))).toInt16.toInt32)), .val (.int (0 : Int32))]) rfl kQ) ?_
      show own_Go p e below s _ _ _ (T402.setTop (mkF m 374 #[.val (.int p1), .val (.int p2), .val (.int p3), .val (.ref b5), .val (.ref b166), .val (.ref b278), .val (.int ((p1 &&& (2147483647 : Int32)) % (17 : Int32))), .val (.int (own_mins ((p1 &&& (2147483647 : Int32)) % (17 : Int32)))), .val (.int (own_maxs ((p1 &&& (2147483647 : Int32)) % (17 : Int32)))), .val (.int ((((own_mins ((p1 &&& (2147483647 : Int32)) % (17 : Int32))) - (2 : Int32)) + ((p2 &&& (2147483647 : Int32)) % (((own_maxs ((p1 &&& (2147483647 : Int32)) % (17 : Int32))) - (own_mins ((p1 &&& (2147483647 : Int32)) % (17 : Int32)))) + (5 : Int32)))).toInt16.toInt32)), .val (.int ((((own_mins ((p1 &&& (2147483647 : Int32)) % (17 : Int32))) - (2 : Int32)) + ((p2 &&& (2147483647 : Int32)) % (((own_maxs ((p1 &&& (2147483647 : Int32)) % (17 : Int32))) - (own_mins ((p1 &&& (2147483647 : Int32)) % (17 : Int32)))) + (5 : Int32)))).toInt16.toInt32)), .val (.int (0 : Int32))] []))
      refine own_st (fun _ kQ => XS.aloadN X402.here hx rfl (hb hby at_374) rfl rfl kQ) ?_
      show own_Go p e below s _ _ _ (T402.setTop (mkF m 375 #[.val (.int p1), .val (.int p2), .val (.int p3), .val (.ref b5), .val (.ref b166), .val (.ref b278), .val (.int ((p1 &&& (2147483647 : Int32)) % (17 : Int32))), .val (.int (own_mins ((p1 &&& (2147483647 : Int32)) % (17 : Int32)))), .val (.int (own_maxs ((p1 &&& (2147483647 : Int32)) % (17 : Int32)))), .val (.int ((((own_mins ((p1 &&& (2147483647 : Int32)) % (17 : Int32))) - (2 : Int32)) + ((p2 &&& (2147483647 : Int32)) % (((own_maxs ((p1 &&& (2147483647 : Int32)) % (17 : Int32))) - (own_mins ((p1 &&& (2147483647 : Int32)) % (17 : Int32)))) + (5 : Int32)))).toInt16.toInt32)), .val (.int ((((own_mins ((p1 &&& (2147483647 : Int32)) % (17 : Int32))) - (2 : Int32)) + ((p2 &&& (2147483647 : Int32)) % (((own_maxs ((p1 &&& (2147483647 : Int32)) % (17 : Int32))) - (own_mins ((p1 &&& (2147483647 : Int32)) % (17 : Int32)))) + (5 : Int32)))).toInt16.toInt32)), .val (.int (0 : Int32))] [(.ref b5)]))
      refine own_st (fun _ kQ => XS.iload X402.here hx rfl (hb hby at_375) rfl kQ) ?_
      show own_Go p e below s _ _ _ (T402.setTop (mkF m 377 #[.val (.int p1), .val (.int p2), .val (.int p3), .val (.ref b5), .val (.ref b166), .val (.ref b278), .val (.int ((p1 &&& (2147483647 : Int32)) % (17 : Int32))), .val (.int (own_mins ((p1 &&& (2147483647 : Int32)) % (17 : Int32)))), .val (.int (own_maxs ((p1 &&& (2147483647 : Int32)) % (17 : Int32)))), .val (.int ((((own_mins ((p1 &&& (2147483647 : Int32)) % (17 : Int32))) - (2 : Int32)) + ((p2 &&& (2147483647 : Int32)) % (((own_maxs ((p1 &&& (2147483647 : Int32)) % (17 : Int32))) - (own_mins ((p1 &&& (2147483647 : Int32)) % (17 : Int32)))) + (5 : Int32)))).toInt16.toInt32)), .val (.int ((((own_mins ((p1 &&& (2147483647 : Int32)) % (17 : Int32))) - (2 : Int32)) + ((p2 &&& (2147483647 : Int32)) % (((own_maxs ((p1 &&& (2147483647 : Int32)) % (17 : Int32))) - (own_mins ((p1 &&& (2147483647 : Int32)) % (17 : Int32)))) + (5 : Int32)))).toInt16.toInt32)), .val (.int (0 : Int32))] [(.int ((p1 &&& (2147483647 : Int32)) % (17 : Int32))), (.ref b5)]))
      have F414 : Arv Z h402 b5 k5 (.object "com/example/epoch/epoch/protocol/ApiKey") (17 : Int32) [(.ref a_PRODUCE), (.ref a_FETCH), (.ref a_LIST_OFFSETS), (.ref a_METADATA), (.ref a_OFFSET_COMMIT), (.ref a_OFFSET_FETCH), (.ref a_FIND_COORDINATOR), (.ref a_JOIN_GROUP), (.ref a_HEARTBEAT), (.ref a_LEAVE_GROUP), (.ref a_SYNC_GROUP), (.ref a_API_VERSIONS), (.ref a_INIT_PRODUCER_ID), (.ref a_ADD_PARTITIONS_TO_TXN), (.ref a_ADD_OFFSETS_TO_TXN), (.ref a_END_TXN), (.ref a_TXN_OFFSET_COMMIT)] .null := ((((((((((((((((((((((((((((((((((((F163.ext E166).other W172 ne169).other W178 ne169).other W184 ne169).other W191 ne169).other W197 ne169).other W203 ne169).other W209 ne169).other W216 ne169).other W222 ne169).other W228 ne169).other W234 ne169).other W241 ne169).other W247 ne169).other W253 ne169).other W259 ne169).other W266 ne169).other W272 ne169).ext E278).other W286 ne282).other W293 ne282).other W301 ne282).other W308 ne282).other W315 ne282).other W322 ne282).other W330 ne282).other W337 ne282).other W344 ne282).other W351 ne282).other W359 ne282).other W366 ne282).other W373 ne282).other W380 ne282).other W388 ne282).other W395 ne282).other W402 ne282)
      obtain ⟨cl415, Ar415, kc415, S415, Nn415, H415, G415⟩ := id F414
      obtain ⟨r0, hr0, Er0, Fn0, Fx0⟩ : ∃ r : Addr, ([(.ref a_PRODUCE), (.ref a_FETCH), (.ref a_LIST_OFFSETS), (.ref a_METADATA), (.ref a_OFFSET_COMMIT), (.ref a_OFFSET_FETCH), (.ref a_FIND_COORDINATOR), (.ref a_JOIN_GROUP), (.ref a_HEARTBEAT), (.ref a_LEAVE_GROUP), (.ref a_SYNC_GROUP), (.ref a_API_VERSIONS), (.ref a_INIT_PRODUCER_ID), (.ref a_ADD_PARTITIONS_TO_TXN), (.ref a_ADD_OFFSETS_TO_TXN), (.ref a_END_TXN), (.ref a_TXN_OFFSET_COMMIT)] : List Value).getD (((p1 &&& (2147483647 : Int32)) % (17 : Int32))).toNatClampNeg .null = .ref r ∧ Exa Z Z.heap r "com/example/epoch/epoch/protocol/ApiKey" ∧ Fld Z Z.heap r "com/example/epoch/epoch/protocol/ApiKey" "minVersion" "S" (.int (own_mins ((p1 &&& (2147483647 : Int32)) % (17 : Int32)))) ∧ Fld Z Z.heap r "com/example/epoch/epoch/protocol/ApiKey" "maxVersion" "S" (.int (own_maxs ((p1 &&& (2147483647 : Int32)) % (17 : Int32)))) := by
        rcases own_lits17 p1 with h | h | h | h | h | h | h | h | h | h | h | h | h | h | h | h | h <;> rw [h]
        · exact ⟨a_PRODUCE, rfl, Ex_a_PRODUCE, F_PRODUCE_minVersion, F_PRODUCE_maxVersion⟩
        · exact ⟨a_FETCH, rfl, Ex_a_FETCH, F_FETCH_minVersion, F_FETCH_maxVersion⟩
        · exact ⟨a_LIST_OFFSETS, rfl, Ex_a_LIST_OFFSETS, F_LIST_OFFSETS_minVersion, F_LIST_OFFSETS_maxVersion⟩
        · exact ⟨a_METADATA, rfl, Ex_a_METADATA, F_METADATA_minVersion, F_METADATA_maxVersion⟩
        · exact ⟨a_OFFSET_COMMIT, rfl, Ex_a_OFFSET_COMMIT, F_OFFSET_COMMIT_minVersion, F_OFFSET_COMMIT_maxVersion⟩
        · exact ⟨a_OFFSET_FETCH, rfl, Ex_a_OFFSET_FETCH, F_OFFSET_FETCH_minVersion, F_OFFSET_FETCH_maxVersion⟩
        · exact ⟨a_FIND_COORDINATOR, rfl, Ex_a_FIND_COORDINATOR, F_FIND_COORDINATOR_minVersion, F_FIND_COORDINATOR_maxVersion⟩
        · exact ⟨a_JOIN_GROUP, rfl, Ex_a_JOIN_GROUP, F_JOIN_GROUP_minVersion, F_JOIN_GROUP_maxVersion⟩
        · exact ⟨a_HEARTBEAT, rfl, Ex_a_HEARTBEAT, F_HEARTBEAT_minVersion, F_HEARTBEAT_maxVersion⟩
        · exact ⟨a_LEAVE_GROUP, rfl, Ex_a_LEAVE_GROUP, F_LEAVE_GROUP_minVersion, F_LEAVE_GROUP_maxVersion⟩
        · exact ⟨a_SYNC_GROUP, rfl, Ex_a_SYNC_GROUP, F_SYNC_GROUP_minVersion, F_SYNC_GROUP_maxVersion⟩
        · exact ⟨a_API_VERSIONS, rfl, Ex_a_API_VERSIONS, F_API_VERSIONS_minVersion, F_API_VERSIONS_maxVersion⟩
        · exact ⟨a_INIT_PRODUCER_ID, rfl, Ex_a_INIT_PRODUCER_ID, F_INIT_PRODUCER_ID_minVersion, F_INIT_PRODUCER_ID_maxVersion⟩
        · exact ⟨a_ADD_PARTITIONS_TO_TXN, rfl, Ex_a_ADD_PARTITIONS_TO_TXN, F_ADD_PARTITIONS_TO_TXN_minVersion, F_ADD_PARTITIONS_TO_TXN_maxVersion⟩
        · exact ⟨a_ADD_OFFSETS_TO_TXN, rfl, Ex_a_ADD_OFFSETS_TO_TXN, F_ADD_OFFSETS_TO_TXN_minVersion, F_ADD_OFFSETS_TO_TXN_maxVersion⟩
        · exact ⟨a_END_TXN, rfl, Ex_a_END_TXN, F_END_TXN_minVersion, F_END_TXN_maxVersion⟩
        · exact ⟨a_TXN_OFFSET_COMMIT, rfl, Ex_a_TXN_OFFSET_COMMIT, F_TXN_OFFSET_COMMIT_minVersion, F_TXN_OFFSET_COMMIT_maxVersion⟩
      have hin415 : ¬ (((p1 &&& (2147483647 : Int32)) % (17 : Int32)) < 0 ∨ cl415.slots.size ≤ (((p1 &&& (2147483647 : Int32)) % (17 : Int32)) : Int32).toNatClampNeg) := inb_of S415 (by rcases own_lits17 p1 with h | h | h | h | h | h | h | h | h | h | h | h | h | h | h | h | h <;> rw [h] <;> decide)
      have hat415 : cl415.slots[(((p1 &&& (2147483647 : Int32)) % (17 : Int32)) : Int32).toNatClampNeg]? = some (.ref r0) := H415.at hin415 hr0
      refine own_st (fun _ kQ => X402.aaload hx (j := ((p1 &&& (2147483647 : Int32)) % (17 : Int32))) (v := (.ref r0)) (own_hp e402 Ar415.1) (State.isArrayOf_alike hZ.alike Ar415.2.1) rfl Ar415.2.2 hin415 hat415 (g := (mkF m 377 #[.val (.int p1), .val (.int p2), .val (.int p3), .val (.ref b5), .val (.ref b166), .val (.ref b278), .val (.int ((p1 &&& (2147483647 : Int32)) % (17 : Int32))), .val (.int (own_mins ((p1 &&& (2147483647 : Int32)) % (17 : Int32)))), .val (.int (own_maxs ((p1 &&& (2147483647 : Int32)) % (17 : Int32)))), .val (.int ((((own_mins ((p1 &&& (2147483647 : Int32)) % (17 : Int32))) - (2 : Int32)) + ((p2 &&& (2147483647 : Int32)) % (((own_maxs ((p1 &&& (2147483647 : Int32)) % (17 : Int32))) - (own_mins ((p1 &&& (2147483647 : Int32)) % (17 : Int32)))) + (5 : Int32)))).toInt16.toInt32)), .val (.int ((((own_mins ((p1 &&& (2147483647 : Int32)) % (17 : Int32))) - (2 : Int32)) + ((p2 &&& (2147483647 : Int32)) % (((own_maxs ((p1 &&& (2147483647 : Int32)) % (17 : Int32))) - (own_mins ((p1 &&& (2147483647 : Int32)) % (17 : Int32)))) + (5 : Int32)))).toInt16.toInt32)), .val (.int (0 : Int32))] [(.int ((p1 &&& (2147483647 : Int32)) % (17 : Int32))), (.ref b5)])) rfl rfl (hb hby at_377) _ kQ) ?_
      show own_Go p e below s _ _ _ (T402.setTop (mkF m 378 #[.val (.int p1), .val (.int p2), .val (.int p3), .val (.ref b5), .val (.ref b166), .val (.ref b278), .val (.int ((p1 &&& (2147483647 : Int32)) % (17 : Int32))), .val (.int (own_mins ((p1 &&& (2147483647 : Int32)) % (17 : Int32)))), .val (.int (own_maxs ((p1 &&& (2147483647 : Int32)) % (17 : Int32)))), .val (.int ((((own_mins ((p1 &&& (2147483647 : Int32)) % (17 : Int32))) - (2 : Int32)) + ((p2 &&& (2147483647 : Int32)) % (((own_maxs ((p1 &&& (2147483647 : Int32)) % (17 : Int32))) - (own_mins ((p1 &&& (2147483647 : Int32)) % (17 : Int32)))) + (5 : Int32)))).toInt16.toInt32)), .val (.int ((((own_mins ((p1 &&& (2147483647 : Int32)) % (17 : Int32))) - (2 : Int32)) + ((p2 &&& (2147483647 : Int32)) % (((own_maxs ((p1 &&& (2147483647 : Int32)) % (17 : Int32))) - (own_mins ((p1 &&& (2147483647 : Int32)) % (17 : Int32)))) + (5 : Int32)))).toInt16.toInt32)), .val (.int (0 : Int32))] [(.ref r0)]))
      refine own_st (fun _ kQ => XS.iload X402.here hx rfl (hb hby at_378) rfl kQ) ?_
      show own_Go p e below s _ _ _ (T402.setTop (mkF m 380 #[.val (.int p1), .val (.int p2), .val (.int p3), .val (.ref b5), .val (.ref b166), .val (.ref b278), .val (.int ((p1 &&& (2147483647 : Int32)) % (17 : Int32))), .val (.int (own_mins ((p1 &&& (2147483647 : Int32)) % (17 : Int32)))), .val (.int (own_maxs ((p1 &&& (2147483647 : Int32)) % (17 : Int32)))), .val (.int ((((own_mins ((p1 &&& (2147483647 : Int32)) % (17 : Int32))) - (2 : Int32)) + ((p2 &&& (2147483647 : Int32)) % (((own_maxs ((p1 &&& (2147483647 : Int32)) % (17 : Int32))) - (own_mins ((p1 &&& (2147483647 : Int32)) % (17 : Int32)))) + (5 : Int32)))).toInt16.toInt32)), .val (.int ((((own_mins ((p1 &&& (2147483647 : Int32)) % (17 : Int32))) - (2 : Int32)) + ((p2 &&& (2147483647 : Int32)) % (((own_maxs ((p1 &&& (2147483647 : Int32)) % (17 : Int32))) - (own_mins ((p1 &&& (2147483647 : Int32)) % (17 : Int32)))) + (5 : Int32)))).toInt16.toInt32)), .val (.int (0 : Int32))] [(.int ((((own_mins ((p1 &&& (2147483647 : Int32)) % (17 : Int32))) - (2 : Int32)) + ((p2 &&& (2147483647 : Int32)) % (((own_maxs ((p1 &&& (2147483647 : Int32)) % (17 : Int32))) - (own_mins ((p1 &&& (2147483647 : Int32)) % (17 : Int32)))) + (5 : Int32)))).toInt16.toInt32)), (.ref r0)]))
      have O417 : Old Z n0 h402 := (((((((((((((((((((((((((((((((((((((O157.wr W160 g7).ext E166).wr W172 g170).wr W178 g170).wr W184 g170).wr W191 g170).wr W197 g170).wr W203 g170).wr W209 g170).wr W216 g170).wr W222 g170).wr W228 g170).wr W234 g170).wr W241 g170).wr W247 g170).wr W253 g170).wr W259 g170).wr W266 g170).wr W272 g170).ext E278).wr W286 g284).wr W293 g284).wr W301 g284).wr W308 g284).wr W315 g284).wr W322 g284).wr W330 g284).wr W337 g284).wr W344 g284).wr W351 g284).wr W359 g284).wr W366 g284).wr W373 g284).wr W380 g284).wr W388 g284).wr W395 g284).wr W402 g284)
      have F418 : Exa Z h402 r0 "com/example/epoch/epoch/protocol/ApiKey" := Er0.ext O417.2
      have F419 : Fld Z h402 r0 "com/example/epoch/epoch/protocol/ApiKey" "minVersion" "S" (.int (own_mins ((p1 &&& (2147483647 : Int32)) % (17 : Int32)))) := Fn0.ext O417.2
      have F420 : Fld Z h402 r0 "com/example/epoch/epoch/protocol/ApiKey" "maxVersion" "S" (.int (own_maxs ((p1 &&& (2147483647 : Int32)) % (17 : Int32)))) := Fx0.ext O417.2
      obtain ⟨cq416, kq416, q416a, q416b, q416c⟩ := isOf hZ e402 F418
      obtain ⟨_, _, ⟨T416, L416, k416, n416⟩, -, X416, ⟨Lc416, hQ416, l416, y416, z416⟩, st416⟩ := X402.virtualBack hx (y := (⟨"com/example/epoch/epoch/protocol/ApiKey", "supports", "(S)Z"⟩ : MethodName)) (z := (⟨"com/example/epoch/epoch/protocol/ApiKey", "supports", "(S)Z"⟩ : MethodName)) hown (mvT hZ (hw _ (List.mem_of_getElem? (i := 40) rfl))) (mvT hZ (hw _ (List.mem_of_getElem? (i := 41) rfl))) (notFace_of_selects (args := #[]) (mvT hZ (hw _ (List.mem_of_getElem? (i := 43) rfl)))) (mvT hZ (hw _ (List.mem_of_getElem? (i := 43) rfl))) (mvT hZ (hw _ (List.mem_of_getElem? (i := 42) rfl))) (by decide) (backOf (W := 0) (own_rm_supports l Z a0 hw [] r0 ((((own_mins ((p1 &&& (2147483647 : Int32)) % (17 : Int32))) - (2 : Int32)) + ((p2 &&& (2147483647 : Int32)) % (((own_maxs ((p1 &&& (2147483647 : Int32)) % (17 : Int32))) - (own_mins ((p1 &&& (2147483647 : Int32)) % (17 : Int32)))) + (5 : Int32)))).toInt16.toInt32) (own_mins ((p1 &&& (2147483647 : Int32)) % (17 : Int32))) (own_maxs ((p1 &&& (2147483647 : Int32)) % (17 : Int32))) h402 n0 Zs408 F419 F420) hZ (hw _ (List.mem_of_getElem? (i := 44) rfl)) (hw _ (List.mem_of_getElem? (i := 3) rfl)) (by decide) (by decide)) q416a q416c (g := (mkF m 380 #[.val (.int p1), .val (.int p2), .val (.int p3), .val (.ref b5), .val (.ref b166), .val (.ref b278), .val (.int ((p1 &&& (2147483647 : Int32)) % (17 : Int32))), .val (.int (own_mins ((p1 &&& (2147483647 : Int32)) % (17 : Int32)))), .val (.int (own_maxs ((p1 &&& (2147483647 : Int32)) % (17 : Int32)))), .val (.int ((((own_mins ((p1 &&& (2147483647 : Int32)) % (17 : Int32))) - (2 : Int32)) + ((p2 &&& (2147483647 : Int32)) % (((own_maxs ((p1 &&& (2147483647 : Int32)) % (17 : Int32))) - (own_mins ((p1 &&& (2147483647 : Int32)) % (17 : Int32)))) + (5 : Int32)))).toInt16.toInt32)), .val (.int ((((own_mins ((p1 &&& (2147483647 : Int32)) % (17 : Int32))) - (2 : Int32)) + ((p2 &&& (2147483647 : Int32)) % (((own_maxs ((p1 &&& (2147483647 : Int32)) % (17 : Int32))) - (own_mins ((p1 &&& (2147483647 : Int32)) % (17 : Int32)))) + (5 : Int32)))).toInt16.toInt32)), .val (.int (0 : Int32))] [(.int ((((own_mins ((p1 &&& (2147483647 : Int32)) % (17 : Int32))) - (2 : Int32)) + ((p2 &&& (2147483647 : Int32)) % (((own_maxs ((p1 &&& (2147483647 : Int32)) % (17 : Int32))) - (own_mins ((p1 &&& (2147483647 : Int32)) % (17 : Int32)))) + (5 : Int32)))).toInt16.toInt32)), (.ref r0)])) rfl (by rw [hml]; rfl) (Steps.refl _) (argsL := [(.int ((((own_mins ((p1 &&& (2147483647 : Int32)) % (17 : Int32))) - (2 : Int32)) + ((p2 &&& (2147483647 : Int32)) % (((own_maxs ((p1 &&& (2147483647 : Int32)) % (17 : Int32))) - (own_mins ((p1 &&& (2147483647 : Int32)) % (17 : Int32)))) + (5 : Int32)))).toInt16.toInt32))]) (rest := []) (lenOf own_pd0 rfl) rfl (by show 2 * 0 + _ ≤ _; exact Nat.le_of_eq rfl) (hb hby at_380) (fun _ _ => ⟨rfl, e402, (by decide : 3 + 0 ≤ _), (by decide : 51 + 0 ≤ _)⟩)
      dsimp only [Pt.U, Pt.locs, Pt.cells, Pt.slots] at X416 l416 y416 z416 st416 hQ416
      subst l416 y416 z416
      obtain ⟨N416q, rfl, eh416⟩ := hQ416
      have N421 := Fr.app N403 N416q
      refine own_tr st416 ?_
      obtain ⟨Lp422, Xp422, Np422⟩ : ∃ L, Stand p l e room_1 s m #[(.int p1), (.int p2), (.int p3)] below meth c T416 L 3 51 ∧ Fr n0 L := ⟨_, X416, N421⟩
      show own_Go p e below s _ _ _ (T416.setTop (mkF m 383 #[.val (.int p1), .val (.int p2), .val (.int p3), .val (.ref b5), .val (.ref b166), .val (.ref b278), .val (.int ((p1 &&& (2147483647 : Int32)) % (17 : Int32))), .val (.int (own_mins ((p1 &&& (2147483647 : Int32)) % (17 : Int32)))), .val (.int (own_maxs ((p1 &&& (2147483647 : Int32)) % (17 : Int32)))), .val (.int ((((own_mins ((p1 &&& (2147483647 : Int32)) % (17 : Int32))) - (2 : Int32)) + ((p2 &&& (2147483647 : Int32)) % (((own_maxs ((p1 &&& (2147483647 : Int32)) % (17 : Int32))) - (own_mins ((p1 &&& (2147483647 : Int32)) % (17 : Int32)))) + (5 : Int32)))).toInt16.toInt32)), .val (.int ((((own_mins ((p1 &&& (2147483647 : Int32)) % (17 : Int32))) - (2 : Int32)) + ((p2 &&& (2147483647 : Int32)) % (((own_maxs ((p1 &&& (2147483647 : Int32)) % (17 : Int32))) - (own_mins ((p1 &&& (2147483647 : Int32)) % (17 : Int32)))) + (5 : Int32)))).toInt16.toInt32)), .val (.int (0 : Int32))] [(.int (if ((((own_mins ((p1 &&& (2147483647 : Int32)) % (17 : Int32))) - (2 : Int32)) + ((p2 &&& (2147483647 : Int32)) % (((own_maxs ((p1 &&& (2147483647 : Int32)) % (17 : Int32))) - (own_mins ((p1 &&& (2147483647 : Int32)) % (17 : Int32)))) + (5 : Int32)))).toInt16.toInt32) < (own_mins ((p1 &&& (2147483647 : Int32)) % (17 : Int32))) then (0 : Int32) else if (own_maxs ((p1 &&& (2147483647 : Int32)) % (17 : Int32))) < ((((own_mins ((p1 &&& (2147483647 : Int32)) % (17 : Int32))) - (2 : Int32)) + ((p2 &&& (2147483647 : Int32)) % (((own_maxs ((p1 &&& (2147483647 : Int32)) % (17 : Int32))) - (own_mins ((p1 &&& (2147483647 : Int32)) % (17 : Int32)))) + (5 : Int32)))).toInt16.toInt32) then 0 else 1))]))
      refine own_st (fun _ kQ => XS.iload Xp422.here hx rfl (hb hby at_383) rfl kQ) ?_
      show own_Go p e below s _ _ _ (T416.setTop (mkF m 385 #[.val (.int p1), .val (.int p2), .val (.int p3), .val (.ref b5), .val (.ref b166), .val (.ref b278), .val (.int ((p1 &&& (2147483647 : Int32)) % (17 : Int32))), .val (.int (own_mins ((p1 &&& (2147483647 : Int32)) % (17 : Int32)))), .val (.int (own_maxs ((p1 &&& (2147483647 : Int32)) % (17 : Int32)))), .val (.int ((((own_mins ((p1 &&& (2147483647 : Int32)) % (17 : Int32))) - (2 : Int32)) + ((p2 &&& (2147483647 : Int32)) % (((own_maxs ((p1 &&& (2147483647 : Int32)) % (17 : Int32))) - (own_mins ((p1 &&& (2147483647 : Int32)) % (17 : Int32)))) + (5 : Int32)))).toInt16.toInt32)), .val (.int ((((own_mins ((p1 &&& (2147483647 : Int32)) % (17 : Int32))) - (2 : Int32)) + ((p2 &&& (2147483647 : Int32)) % (((own_maxs ((p1 &&& (2147483647 : Int32)) % (17 : Int32))) - (own_mins ((p1 &&& (2147483647 : Int32)) % (17 : Int32)))) + (5 : Int32)))).toInt16.toInt32)), .val (.int (0 : Int32))] [(.int (0 : Int32)), (.int (if ((((own_mins ((p1 &&& (2147483647 : Int32)) % (17 : Int32))) - (2 : Int32)) + ((p2 &&& (2147483647 : Int32)) % (((own_maxs ((p1 &&& (2147483647 : Int32)) % (17 : Int32))) - (own_mins ((p1 &&& (2147483647 : Int32)) % (17 : Int32)))) + (5 : Int32)))).toInt16.toInt32) < (own_mins ((p1 &&& (2147483647 : Int32)) % (17 : Int32))) then (0 : Int32) else if (own_maxs ((p1 &&& (2147483647 : Int32)) % (17 : Int32))) < ((((own_mins ((p1 &&& (2147483647 : Int32)) % (17 : Int32))) - (2 : Int32)) + ((p2 &&& (2147483647 : Int32)) % (((own_maxs ((p1 &&& (2147483647 : Int32)) % (17 : Int32))) - (own_mins ((p1 &&& (2147483647 : Int32)) % (17 : Int32)))) + (5 : Int32)))).toInt16.toInt32) then 0 else 1))]))
      refine own_st (fun _ kQ => XS.icmpNo Xp422.here hx rfl (hb hby at_385) rfl (XT.ii_ne_f (by rw [if_pos hc413])) kQ) ?_
      show own_Go p e below s _ _ _ (T416.setTop (mkF m 388 #[.val (.int p1), .val (.int p2), .val (.int p3), .val (.ref b5), .val (.ref b166), .val (.ref b278), .val (.int ((p1 &&& (2147483647 : Int32)) % (17 : Int32))), .val (.int (own_mins ((p1 &&& (2147483647 : Int32)) % (17 : Int32)))), .val (.int (own_maxs ((p1 &&& (2147483647 : Int32)) % (17 : Int32)))), .val (.int ((((own_mins ((p1 &&& (2147483647 : Int32)) % (17 : Int32))) - (2 : Int32)) + ((p2 &&& (2147483647 : Int32)) % (((own_maxs ((p1 &&& (2147483647 : Int32)) % (17 : Int32))) - (own_mins ((p1 &&& (2147483647 : Int32)) % (17 : Int32)))) + (5 : Int32)))).toInt16.toInt32)), .val (.int ((((own_mins ((p1 &&& (2147483647 : Int32)) % (17 : Int32))) - (2 : Int32)) + ((p2 &&& (2147483647 : Int32)) % (((own_maxs ((p1 &&& (2147483647 : Int32)) % (17 : Int32))) - (own_mins ((p1 &&& (2147483647 : Int32)) % (17 : Int32)))) + (5 : Int32)))).toInt16.toInt32)), .val (.int (0 : Int32))] []))
      refine own_st (fun _ kQ => XT.iconstV Xp422.here hx rfl (1 : Int32) (hb hby at_388) (by decide) kQ) ?_
      show own_Go p e below s _ _ _ (T416.setTop (mkF m 389 #[.val (.int p1), .val (.int p2), .val (.int p3), .val (.ref b5), .val (.ref b166), .val (.ref b278), .val (.int ((p1 &&& (2147483647 : Int32)) % (17 : Int32))), .val (.int (own_mins ((p1 &&& (2147483647 : Int32)) % (17 : Int32)))), .val (.int (own_maxs ((p1 &&& (2147483647 : Int32)) % (17 : Int32)))), .val (.int ((((own_mins ((p1 &&& (2147483647 : Int32)) % (17 : Int32))) - (2 : Int32)) + ((p2 &&& (2147483647 : Int32)) % (((own_maxs ((p1 &&& (2147483647 : Int32)) % (17 : Int32))) - (own_mins ((p1 &&& (2147483647 : Int32)) % (17 : Int32)))) + (5 : Int32)))).toInt16.toInt32)), .val (.int ((((own_mins ((p1 &&& (2147483647 : Int32)) % (17 : Int32))) - (2 : Int32)) + ((p2 &&& (2147483647 : Int32)) % (((own_maxs ((p1 &&& (2147483647 : Int32)) % (17 : Int32))) - (own_mins ((p1 &&& (2147483647 : Int32)) % (17 : Int32)))) + (5 : Int32)))).toInt16.toInt32)), .val (.int (0 : Int32))] [(.int (1 : Int32))]))
      refine own_st (fun _ kQ => XS.goto Xp422.here hx rfl (pc0 := 389) (pc' := 393) rfl (hb hby at_389) (by decide) (by decide) kQ) ?_
      show own_Go p e below s _ _ _ (T416.setTop (mkF m 393 #[.val (.int p1), .val (.int p2), .val (.int p3), .val (.ref b5), .val (.ref b166), .val (.ref b278), .val (.int ((p1 &&& (2147483647 : Int32)) % (17 : Int32))), .val (.int (own_mins ((p1 &&& (2147483647 : Int32)) % (17 : Int32)))), .val (.int (own_maxs ((p1 &&& (2147483647 : Int32)) % (17 : Int32)))), .val (.int ((((own_mins ((p1 &&& (2147483647 : Int32)) % (17 : Int32))) - (2 : Int32)) + ((p2 &&& (2147483647 : Int32)) % (((own_maxs ((p1 &&& (2147483647 : Int32)) % (17 : Int32))) - (own_mins ((p1 &&& (2147483647 : Int32)) % (17 : Int32)))) + (5 : Int32)))).toInt16.toInt32)), .val (.int ((((own_mins ((p1 &&& (2147483647 : Int32)) % (17 : Int32))) - (2 : Int32)) + ((p2 &&& (2147483647 : Int32)) % (((own_maxs ((p1 &&& (2147483647 : Int32)) % (17 : Int32))) - (own_mins ((p1 &&& (2147483647 : Int32)) % (17 : Int32)))) + (5 : Int32)))).toInt16.toInt32)), .val (.int (0 : Int32))] [(.int (1 : Int32))]))
      refine own_retN Xp422 hx hlk Bd.returns (t := .boolean) (z' := (1 : Int32)) (by simp) (by decide) (hb hby at_393) (by decide) (by decide) ?_
      rw [eh416]
      exact ⟨Np422, rfl⟩
    · refine own_st (fun _ kQ => XS.icmpNo X402.here hx rfl (hb hby at_357) rfl (XT.ii_lt_f hc413) kQ) ?_
      show own_Go p e below s _ _ _ (T402.setTop (mkF m 360 #[.val (.int p1), .val (.int p2), .val (.int p3), .val (.ref b5), .val (.ref b166), .val (.ref b278), .val (.int ((p1 &&& (2147483647 : Int32)) % (17 : Int32))), .val (.int (own_mins ((p1 &&& (2147483647 : Int32)) % (17 : Int32)))), .val (.int (own_maxs ((p1 &&& (2147483647 : Int32)) % (17 : Int32)))), .val (.int ((((own_mins ((p1 &&& (2147483647 : Int32)) % (17 : Int32))) - (2 : Int32)) + ((p2 &&& (2147483647 : Int32)) % (((own_maxs ((p1 &&& (2147483647 : Int32)) % (17 : Int32))) - (own_mins ((p1 &&& (2147483647 : Int32)) % (17 : Int32)))) + (5 : Int32)))).toInt16.toInt32)), .val (.int ((((own_mins ((p1 &&& (2147483647 : Int32)) % (17 : Int32))) - (2 : Int32)) + ((p2 &&& (2147483647 : Int32)) % (((own_maxs ((p1 &&& (2147483647 : Int32)) % (17 : Int32))) - (own_mins ((p1 &&& (2147483647 : Int32)) % (17 : Int32)))) + (5 : Int32)))).toInt16.toInt32)), .unset] []))
      refine own_st (fun _ kQ => XS.iload X402.here hx rfl (hb hby at_360) rfl kQ) ?_
      show own_Go p e below s _ _ _ (T402.setTop (mkF m 362 #[.val (.int p1), .val (.int p2), .val (.int p3), .val (.ref b5), .val (.ref b166), .val (.ref b278), .val (.int ((p1 &&& (2147483647 : Int32)) % (17 : Int32))), .val (.int (own_mins ((p1 &&& (2147483647 : Int32)) % (17 : Int32)))), .val (.int (own_maxs ((p1 &&& (2147483647 : Int32)) % (17 : Int32)))), .val (.int ((((own_mins ((p1 &&& (2147483647 : Int32)) % (17 : Int32))) - (2 : Int32)) + ((p2 &&& (2147483647 : Int32)) % (((own_maxs ((p1 &&& (2147483647 : Int32)) % (17 : Int32))) - (own_mins ((p1 &&& (2147483647 : Int32)) % (17 : Int32)))) + (5 : Int32)))).toInt16.toInt32)), .val (.int ((((own_mins ((p1 &&& (2147483647 : Int32)) % (17 : Int32))) - (2 : Int32)) + ((p2 &&& (2147483647 : Int32)) % (((own_maxs ((p1 &&& (2147483647 : Int32)) % (17 : Int32))) - (own_mins ((p1 &&& (2147483647 : Int32)) % (17 : Int32)))) + (5 : Int32)))).toInt16.toInt32)), .unset] [(.int ((((own_mins ((p1 &&& (2147483647 : Int32)) % (17 : Int32))) - (2 : Int32)) + ((p2 &&& (2147483647 : Int32)) % (((own_maxs ((p1 &&& (2147483647 : Int32)) % (17 : Int32))) - (own_mins ((p1 &&& (2147483647 : Int32)) % (17 : Int32)))) + (5 : Int32)))).toInt16.toInt32))]))
      refine own_st (fun _ kQ => XS.iload X402.here hx rfl (hb hby at_362) rfl kQ) ?_
      show own_Go p e below s _ _ _ (T402.setTop (mkF m 364 #[.val (.int p1), .val (.int p2), .val (.int p3), .val (.ref b5), .val (.ref b166), .val (.ref b278), .val (.int ((p1 &&& (2147483647 : Int32)) % (17 : Int32))), .val (.int (own_mins ((p1 &&& (2147483647 : Int32)) % (17 : Int32)))), .val (.int (own_maxs ((p1 &&& (2147483647 : Int32)) % (17 : Int32)))), .val (.int ((((own_mins ((p1 &&& (2147483647 : Int32)) % (17 : Int32))) - (2 : Int32)) + ((p2 &&& (2147483647 : Int32)) % (((own_maxs ((p1 &&& (2147483647 : Int32)) % (17 : Int32))) - (own_mins ((p1 &&& (2147483647 : Int32)) % (17 : Int32)))) + (5 : Int32)))).toInt16.toInt32)), .val (.int ((((own_mins ((p1 &&& (2147483647 : Int32)) % (17 : Int32))) - (2 : Int32)) + ((p2 &&& (2147483647 : Int32)) % (((own_maxs ((p1 &&& (2147483647 : Int32)) % (17 : Int32))) - (own_mins ((p1 &&& (2147483647 : Int32)) % (17 : Int32)))) + (5 : Int32)))).toInt16.toInt32)), .unset] [(.int (own_maxs ((p1 &&& (2147483647 : Int32)) % (17 : Int32)))), (.int ((((own_mins ((p1 &&& (2147483647 : Int32)) % (17 : Int32))) - (2 : Int32)) + ((p2 &&& (2147483647 : Int32)) % (((own_maxs ((p1 &&& (2147483647 : Int32)) % (17 : Int32))) - (own_mins ((p1 &&& (2147483647 : Int32)) % (17 : Int32)))) + (5 : Int32)))).toInt16.toInt32))]))
      by_cases hc423 : (own_maxs ((p1 &&& (2147483647 : Int32)) % (17 : Int32))) < ((((own_mins ((p1 &&& (2147483647 : Int32)) % (17 : Int32))) - (2 : Int32)) + ((p2 &&& (2147483647 : Int32)) % (((own_maxs ((p1 &&& (2147483647 : Int32)) % (17 : Int32))) - (own_mins ((p1 &&& (2147483647 : Int32)) % (17 : Int32)))) + (5 : Int32)))).toInt16.toInt32)
      · refine own_st (fun _ kQ => XS.icmpYes X402.here hx rfl (pc0 := 364) (pc' := 371) rfl (hb hby at_364) rfl (XT.ii_gt_t hc423) (by decide) (by decide) kQ) ?_
        show own_Go p e below s _ _ _ (T402.setTop (mkF m 371 #[.val (.int p1), .val (.int p2), .val (.int p3), .val (.ref b5), .val (.ref b166), .val (.ref b278), .val (.int ((p1 &&& (2147483647 : Int32)) % (17 : Int32))), .val (.int (own_mins ((p1 &&& (2147483647 : Int32)) % (17 : Int32)))), .val (.int (own_maxs ((p1 &&& (2147483647 : Int32)) % (17 : Int32)))), .val (.int ((((own_mins ((p1 &&& (2147483647 : Int32)) % (17 : Int32))) - (2 : Int32)) + ((p2 &&& (2147483647 : Int32)) % (((own_maxs ((p1 &&& (2147483647 : Int32)) % (17 : Int32))) - (own_mins ((p1 &&& (2147483647 : Int32)) % (17 : Int32)))) + (5 : Int32)))).toInt16.toInt32)), .val (.int ((((own_mins ((p1 &&& (2147483647 : Int32)) % (17 : Int32))) - (2 : Int32)) + ((p2 &&& (2147483647 : Int32)) % (((own_maxs ((p1 &&& (2147483647 : Int32)) % (17 : Int32))) - (own_mins ((p1 &&& (2147483647 : Int32)) % (17 : Int32)))) + (5 : Int32)))).toInt16.toInt32)), .unset] []))
        refine own_st (fun _ kQ => XT.iconstV X402.here hx rfl (0 : Int32) (hb hby at_371) (by decide) kQ) ?_
        show own_Go p e below s _ _ _ (T402.setTop (mkF m 372 #[.val (.int p1), .val (.int p2), .val (.int p3), .val (.ref b5), .val (.ref b166), .val (.ref b278), .val (.int ((p1 &&& (2147483647 : Int32)) % (17 : Int32))), .val (.int (own_mins ((p1 &&& (2147483647 : Int32)) % (17 : Int32)))), .val (.int (own_maxs ((p1 &&& (2147483647 : Int32)) % (17 : Int32)))), .val (.int ((((own_mins ((p1 &&& (2147483647 : Int32)) % (17 : Int32))) - (2 : Int32)) + ((p2 &&& (2147483647 : Int32)) % (((own_maxs ((p1 &&& (2147483647 : Int32)) % (17 : Int32))) - (own_mins ((p1 &&& (2147483647 : Int32)) % (17 : Int32)))) + (5 : Int32)))).toInt16.toInt32)), .val (.int ((((own_mins ((p1 &&& (2147483647 : Int32)) % (17 : Int32))) - (2 : Int32)) + ((p2 &&& (2147483647 : Int32)) % (((own_maxs ((p1 &&& (2147483647 : Int32)) % (17 : Int32))) - (own_mins ((p1 &&& (2147483647 : Int32)) % (17 : Int32)))) + (5 : Int32)))).toInt16.toInt32)), .unset] [(.int (0 : Int32))]))
        refine own_st (fun _ kQ => XS.istore X402.here hx rfl (hb hby at_372) rfl (l' := #[.val (.int p1), .val (.int p2), .val (.int p3), .val (.ref b5), .val (.ref b166), .val (.ref b278), .val (.int ((p1 &&& (2147483647 : Int32)) % (17 : Int32))), .val (.int (own_mins ((p1 &&& (2147483647 : Int32)) % (17 : Int32)))), .val (.int (own_maxs ((p1 &&& (2147483647 : Int32)) % (17 : Int32)))), .val (.int ((((own_mins ((p1 &&& (2147483647 : Int32)) % (17 : Int32))) - (2 : Int32)) + ((p2 &&& (2147483647 : Int32)) % (((own_maxs ((p1 &&& (2147483647 : Int32)) % (17 : Int32))) - (own_mins ((p1 &&& (2147483647 : Int32)) % (17 : Int32)))) + (5 : Int32)))).toInt16.toInt32)), .val (.int ((((own_mins ((p1 &&& (2147483647 : Int32)) % (17 : Int32))) - (2 : Int32)) + ((p2 &&& (2147483647 : Int32)) % (((own_maxs ((p1 &&& (2147483647 : Int32)) % (17 : Int32))) - (own_mins ((p1 &&& (2147483647 : Int32)) % (17 : Int32)))) + (5 : Int32)))).toInt16.toInt32)), .val (.int (0 : Int32))]) rfl kQ) ?_
        show own_Go p e below s _ _ _ (T402.setTop (mkF m 374 #[.val (.int p1), .val (.int p2), .val (.int p3), .val (.ref b5), .val (.ref b166), .val (.ref b278), .val (.int ((p1 &&& (2147483647 : Int32)) % (17 : Int32))), .val (.int (own_mins ((p1 &&& (2147483647 : Int32)) % (17 : Int32)))), .val (.int (own_maxs ((p1 &&& (2147483647 : Int32)) % (17 : Int32)))), .val (.int ((((own_mins ((p1 &&& (2147483647 : Int32)) % (17 : Int32))) - (2 : Int32)) + ((p2 &&& (2147483647 : Int32)) % (((own_maxs ((p1 &&& (2147483647 : Int32)) % (17 : Int32))) - (own_mins ((p1 &&& (2147483647 : Int32)) % (17 : Int32)))) + (5 : Int32)))).toInt16.toInt32)), .val (.int ((((own_mins ((p1 &&& (2147483647 : Int32)) % (17 : Int32))) - (2 : Int32)) + ((p2 &&& (2147483647 : Int32)) % (((own_maxs ((p1 &&& (2147483647 : Int32)) % (17 : Int32))) - (own_mins ((p1 &&& (2147483647 : Int32)) % (17 : Int32)))) + (5 : Int32)))).toInt16.toInt32)), .val (.int (0 : Int32))] []))
        refine own_st (fun _ kQ => XS.aloadN X402.here hx rfl (hb hby at_374) rfl rfl kQ) ?_
        show own_Go p e below s _ _ _ (T402.setTop (mkF m 375 #[.val (.int p1), .val (.int p2), .val (.int p3), .val (.ref b5), .val (.ref b166), .val (.ref b278), .val (.int ((p1 &&& (2147483647 : Int32)) % (17 : Int32))), .val (.int (own_mins ((p1 &&& (2147483647 : Int32)) % (17 : Int32)))), .val (.int (own_maxs ((p1 &&& (2147483647 : Int32)) % (17 : Int32)))), .val (.int ((((own_mins ((p1 &&& (2147483647 : Int32)) % (17 : Int32))) - (2 : Int32)) + ((p2 &&& (2147483647 : Int32)) % (((own_maxs ((p1 &&& (2147483647 : Int32)) % (17 : Int32))) - (own_mins ((p1 &&& (2147483647 : Int32)) % (17 : Int32)))) + (5 : Int32)))).toInt16.toInt32)), .val (.int ((((own_mins ((p1 &&& (2147483647 : Int32)) % (17 : Int32))) - (2 : Int32)) + ((p2 &&& (2147483647 : Int32)) % (((own_maxs ((p1 &&& (2147483647 : Int32)) % (17 : Int32))) - (own_mins ((p1 &&& (2147483647 : Int32)) % (17 : Int32)))) + (5 : Int32)))).toInt16.toInt32)), .val (.int (0 : Int32))] [(.ref b5)]))
        refine own_st (fun _ kQ => XS.iload X402.here hx rfl (hb hby at_375) rfl kQ) ?_
        show own_Go p e below s _ _ _ (T402.setTop (mkF m 377 #[.val (.int p1), .val (.int p2), .val (.int p3), .val (.ref b5), .val (.ref b166), .val (.ref b278), .val (.int ((p1 &&& (2147483647 : Int32)) % (17 : Int32))), .val (.int (own_mins ((p1 &&& (2147483647 : Int32)) % (17 : Int32)))), .val (.int (own_maxs ((p1 &&& (2147483647 : Int32)) % (17 : Int32)))), .val (.int ((((own_mins ((p1 &&& (2147483647 : Int32)) % (17 : Int32))) - (2 : Int32)) + ((p2 &&& (2147483647 : Int32)) % (((own_maxs ((p1 &&& (2147483647 : Int32)) % (17 : Int32))) - (own_mins ((p1 &&& (2147483647 : Int32)) % (17 : Int32)))) + (5 : Int32)))).toInt16.toInt32)), .val (.int ((((own_mins ((p1 &&& (2147483647 : Int32)) % (17 : Int32))) - (2 : Int32)) + ((p2 &&& (2147483647 : Int32)) % (((own_maxs ((p1 &&& (2147483647 : Int32)) % (17 : Int32))) - (own_mins ((p1 &&& (2147483647 : Int32)) % (17 : Int32)))) + (5 : Int32)))).toInt16.toInt32)), .val (.int (0 : Int32))] [(.int ((p1 &&& (2147483647 : Int32)) % (17 : Int32))), (.ref b5)]))
        have F424 : Arv Z h402 b5 k5 (.object "com/example/epoch/epoch/protocol/ApiKey") (17 : Int32) [(.ref a_PRODUCE), (.ref a_FETCH), (.ref a_LIST_OFFSETS), (.ref a_METADATA), (.ref a_OFFSET_COMMIT), (.ref a_OFFSET_FETCH), (.ref a_FIND_COORDINATOR), (.ref a_JOIN_GROUP), (.ref a_HEARTBEAT), (.ref a_LEAVE_GROUP), (.ref a_SYNC_GROUP), (.ref a_API_VERSIONS), (.ref a_INIT_PRODUCER_ID), (.ref a_ADD_PARTITIONS_TO_TXN), (.ref a_ADD_OFFSETS_TO_TXN), (.ref a_END_TXN), (.ref a_TXN_OFFSET_COMMIT)] .null := ((((((((((((((((((((((((((((((((((((F163.ext E166).other W172 ne169).other W178 ne169).other W184 ne169).other W191 ne169).other W197 ne169).other W203 ne169).other W209 ne169).other W216 ne169).other W222 ne169).other W228 ne169).other W234 ne169).other W241 ne169).other W247 ne169).other W253 ne169).other W259 ne169).other W266 ne169).other W272 ne169).ext E278).other W286 ne282).other W293 ne282).other W301 ne282).other W308 ne282).other W315 ne282).other W322 ne282).other W330 ne282).other W337 ne282).other W344 ne282).other W351 ne282).other W359 ne282).other W366 ne282).other W373 ne282).other W380 ne282).other W388 ne282).other W395 ne282).other W402 ne282)
        obtain ⟨cl425, Ar425, kc425, S425, Nn425, H425, G425⟩ := id F424
        obtain ⟨r0, hr0, Er0, Fn0, Fx0⟩ : ∃ r : Addr, ([(.ref a_PRODUCE), (.ref a_FETCH), (.ref a_LIST_OFFSETS), (.ref a_METADATA), (.ref a_OFFSET_COMMIT), (.ref a_OFFSET_FETCH), (.ref a_FIND_COORDINATOR), (.ref a_JOIN_GROUP), (.ref a_HEARTBEAT), (.ref a_LEAVE_GROUP), (.ref a_SYNC_GROUP), (.ref a_API_VERSIONS), (.ref a_INIT_PRODUCER_ID), (.ref a_ADD_PARTITIONS_TO_TXN), (.ref a_ADD_OFFSETS_TO_TXN), (.ref a_END_TXN), (.ref a_TXN_OFFSET_COMMIT)] : List Value).getD (((p1 &&& (2147483647 : Int32)) % (17 : Int32))).toNatClampNeg .null = .ref r ∧ Exa Z Z.heap r "com/example/epoch/epoch/protocol/ApiKey" ∧ Fld Z Z.heap r "com/example/epoch/epoch/protocol/ApiKey" "minVersion" "S" (.int (own_mins ((p1 &&& (2147483647 : Int32)) % (17 : Int32)))) ∧ Fld Z Z.heap r "com/example/epoch/epoch/protocol/ApiKey" "maxVersion" "S" (.int (own_maxs ((p1 &&& (2147483647 : Int32)) % (17 : Int32)))) := by
          rcases own_lits17 p1 with h | h | h | h | h | h | h | h | h | h | h | h | h | h | h | h | h <;> rw [h]
          · exact ⟨a_PRODUCE, rfl, Ex_a_PRODUCE, F_PRODUCE_minVersion, F_PRODUCE_maxVersion⟩
          · exact ⟨a_FETCH, rfl, Ex_a_FETCH, F_FETCH_minVersion, F_FETCH_maxVersion⟩
          · exact ⟨a_LIST_OFFSETS, rfl, Ex_a_LIST_OFFSETS, F_LIST_OFFSETS_minVersion, F_LIST_OFFSETS_maxVersion⟩
          · exact ⟨a_METADATA, rfl, Ex_a_METADATA, F_METADATA_minVersion, F_METADATA_maxVersion⟩
          · exact ⟨a_OFFSET_COMMIT, rfl, Ex_a_OFFSET_COMMIT, F_OFFSET_COMMIT_minVersion, F_OFFSET_COMMIT_maxVersion⟩
          · exact ⟨a_OFFSET_FETCH, rfl, Ex_a_OFFSET_FETCH, F_OFFSET_FETCH_minVersion, F_OFFSET_FETCH_maxVersion⟩
          · exact ⟨a_FIND_COORDINATOR, rfl, Ex_a_FIND_COORDINATOR, F_FIND_COORDINATOR_minVersion, F_FIND_COORDINATOR_maxVersion⟩
          · exact ⟨a_JOIN_GROUP, rfl, Ex_a_JOIN_GROUP, F_JOIN_GROUP_minVersion, F_JOIN_GROUP_maxVersion⟩
          · exact ⟨a_HEARTBEAT, rfl, Ex_a_HEARTBEAT, F_HEARTBEAT_minVersion, F_HEARTBEAT_maxVersion⟩
          · exact ⟨a_LEAVE_GROUP, rfl, Ex_a_LEAVE_GROUP, F_LEAVE_GROUP_minVersion, F_LEAVE_GROUP_maxVersion⟩
          · exact ⟨a_SYNC_GROUP, rfl, Ex_a_SYNC_GROUP, F_SYNC_GROUP_minVersion, F_SYNC_GROUP_maxVersion⟩
          · exact ⟨a_API_VERSIONS, rfl, Ex_a_API_VERSIONS, F_API_VERSIONS_minVersion, F_API_VERSIONS_maxVersion⟩
          · exact ⟨a_INIT_PRODUCER_ID, rfl, Ex_a_INIT_PRODUCER_ID, F_INIT_PRODUCER_ID_minVersion, F_INIT_PRODUCER_ID_maxVersion⟩
          · exact ⟨a_ADD_PARTITIONS_TO_TXN, rfl, Ex_a_ADD_PARTITIONS_TO_TXN, F_ADD_PARTITIONS_TO_TXN_minVersion, F_ADD_PARTITIONS_TO_TXN_maxVersion⟩
          · exact ⟨a_ADD_OFFSETS_TO_TXN, rfl, Ex_a_ADD_OFFSETS_TO_TXN, F_ADD_OFFSETS_TO_TXN_minVersion, F_ADD_OFFSETS_TO_TXN_maxVersion⟩
          · exact ⟨a_END_TXN, rfl, Ex_a_END_TXN, F_END_TXN_minVersion, F_END_TXN_maxVersion⟩
          · exact ⟨a_TXN_OFFSET_COMMIT, rfl, Ex_a_TXN_OFFSET_COMMIT, F_TXN_OFFSET_COMMIT_minVersion, F_TXN_OFFSET_COMMIT_maxVersion⟩
        have hin425 : ¬ (((p1 &&& (2147483647 : Int32)) % (17 : Int32)) < 0 ∨ cl425.slots.size ≤ (((p1 &&& (2147483647 : Int32)) % (17 : Int32)) : Int32).toNatClampNeg) := inb_of S425 (by rcases own_lits17 p1 with h | h | h | h | h | h | h | h | h | h | h | h | h | h | h | h | h <;> rw [h] <;> decide)
        have hat425 : cl425.slots[(((p1 &&& (2147483647 : Int32)) % (17 : Int32)) : Int32).toNatClampNeg]? = some (.ref r0) := H425.at hin425 hr0
        refine own_st (fun _ kQ => X402.aaload hx (j := ((p1 &&& (2147483647 : Int32)) % (17 : Int32))) (v := (.ref r0)) (own_hp e402 Ar425.1) (State.isArrayOf_alike hZ.alike Ar425.2.1) rfl Ar425.2.2 hin425 hat425 (g := (mkF m 377 #[.val (.int p1), .val (.int p2), .val (.int p3), .val (.ref b5), .val (.ref b166), .val (.ref b278), .val (.int ((p1 &&& (2147483647 : Int32)) % (17 : Int32))), .val (.int (own_mins ((p1 &&& (2147483647 : Int32)) % (17 : Int32)))), .val (.int (own_maxs ((p1 &&& (2147483647 : Int32)) % (17 : Int32)))), .val (.int ((((own_mins ((p1 &&& (2147483647 : Int32)) % (17 : Int32))) - (2 : Int32)) + ((p2 &&& (2147483647 : Int32)) % (((own_maxs ((p1 &&& (2147483647 : Int32)) % (17 : Int32))) - (own_mins ((p1 &&& (2147483647 : Int32)) % (17 : Int32)))) + (5 : Int32)))).toInt16.toInt32)), .val (.int ((((own_mins ((p1 &&& (2147483647 : Int32)) % (17 : Int32))) - (2 : Int32)) + ((p2 &&& (2147483647 : Int32)) % (((own_maxs ((p1 &&& (2147483647 : Int32)) % (17 : Int32))) - (own_mins ((p1 &&& (2147483647 : Int32)) % (17 : Int32)))) + (5 : Int32)))).toInt16.toInt32)), .val (.int (0 : Int32))] [(.int ((p1 &&& (2147483647 : Int32)) % (17 : Int32))), (.ref b5)])) rfl rfl (hb hby at_377) _ kQ) ?_
        show own_Go p e below s _ _ _ (T402.setTop (mkF m 378 #[.val (.int p1), .val (.int p2), .val (.int p3), .val (.ref b5), .val (.ref b166), .val (.ref b278), .val (.int ((p1 &&& (2147483647 : Int32)) % (17 : Int32))), .val (.int (own_mins ((p1 &&& (2147483647 : Int32)) % (17 : Int32)))), .val (.int (own_maxs ((p1 &&& (2147483647 : Int32)) % (17 : Int32)))), .val (.int ((((own_mins ((p1 &&& (2147483647 : Int32)) % (17 : Int32))) - (2 : Int32)) + ((p2 &&& (2147483647 : Int32)) % (((own_maxs ((p1 &&& (2147483647 : Int32)) % (17 : Int32))) - (own_mins ((p1 &&& (2147483647 : Int32)) % (17 : Int32)))) + (5 : Int32)))).toInt16.toInt32)), .val (.int ((((own_mins ((p1 &&& (2147483647 : Int32)) % (17 : Int32))) - (2 : Int32)) + ((p2 &&& (2147483647 : Int32)) % (((own_maxs ((p1 &&& (2147483647 : Int32)) % (17 : Int32))) - (own_mins ((p1 &&& (2147483647 : Int32)) % (17 : Int32)))) + (5 : Int32)))).toInt16.toInt32)), .val (.int (0 : Int32))] [(.ref r0)]))
        refine own_st (fun _ kQ => XS.iload X402.here hx rfl (hb hby at_378) rfl kQ) ?_
        show own_Go p e below s _ _ _ (T402.setTop (mkF m 380 #[.val (.int p1), .val (.int p2), .val (.int p3), .val (.ref b5), .val (.ref b166), .val (.ref b278), .val (.int ((p1 &&& (2147483647 : Int32)) % (17 : Int32))), .val (.int (own_mins ((p1 &&& (2147483647 : Int32)) % (17 : Int32)))), .val (.int (own_maxs ((p1 &&& (2147483647 : Int32)) % (17 : Int32)))), .val (.int ((((own_mins ((p1 &&& (2147483647 : Int32)) % (17 : Int32))) - (2 : Int32)) + ((p2 &&& (2147483647 : Int32)) % (((own_maxs ((p1 &&& (2147483647 : Int32)) % (17 : Int32))) - (own_mins ((p1 &&& (2147483647 : Int32)) % (17 : Int32)))) + (5 : Int32)))).toInt16.toInt32)), .val (.int ((((own_mins ((p1 &&& (2147483647 : Int32)) % (17 : Int32))) - (2 : Int32)) + ((p2 &&& (2147483647 : Int32)) % (((own_maxs ((p1 &&& (2147483647 : Int32)) % (17 : Int32))) - (own_mins ((p1 &&& (2147483647 : Int32)) % (17 : Int32)))) + (5 : Int32)))).toInt16.toInt32)), .val (.int (0 : Int32))] [(.int ((((own_mins ((p1 &&& (2147483647 : Int32)) % (17 : Int32))) - (2 : Int32)) + ((p2 &&& (2147483647 : Int32)) % (((own_maxs ((p1 &&& (2147483647 : Int32)) % (17 : Int32))) - (own_mins ((p1 &&& (2147483647 : Int32)) % (17 : Int32)))) + (5 : Int32)))).toInt16.toInt32)), (.ref r0)]))
        have O427 : Old Z n0 h402 := (((((((((((((((((((((((((((((((((((((O157.wr W160 g7).ext E166).wr W172 g170).wr W178 g170).wr W184 g170).wr W191 g170).wr W197 g170).wr W203 g170).wr W209 g170).wr W216 g170).wr W222 g170).wr W228 g170).wr W234 g170).wr W241 g170).wr W247 g170).wr W253 g170).wr W259 g170).wr W266 g170).wr W272 g170).ext E278).wr W286 g284).wr W293 g284).wr W301 g284).wr W308 g284).wr W315 g284).wr W322 g284).wr W330 g284).wr W337 g284).wr W344 g284).wr W351 g284).wr W359 g284).wr W366 g284).wr W373 g284).wr W380 g284).wr W388 g284).wr W395 g284).wr W402 g284)
        have F428 : Exa Z h402 r0 "com/example/epoch/epoch/protocol/ApiKey" := Er0.ext O427.2
        have F429 : Fld Z h402 r0 "com/example/epoch/epoch/protocol/ApiKey" "minVersion" "S" (.int (own_mins ((p1 &&& (2147483647 : Int32)) % (17 : Int32)))) := Fn0.ext O427.2
        have F430 : Fld Z h402 r0 "com/example/epoch/epoch/protocol/ApiKey" "maxVersion" "S" (.int (own_maxs ((p1 &&& (2147483647 : Int32)) % (17 : Int32)))) := Fx0.ext O427.2
        obtain ⟨cq426, kq426, q426a, q426b, q426c⟩ := isOf hZ e402 F428
        obtain ⟨_, _, ⟨T426, L426, k426, n426⟩, -, X426, ⟨Lc426, hQ426, l426, y426, z426⟩, st426⟩ := X402.virtualBack hx (y := (⟨"com/example/epoch/epoch/protocol/ApiKey", "supports", "(S)Z"⟩ : MethodName)) (z := (⟨"com/example/epoch/epoch/protocol/ApiKey", "supports", "(S)Z"⟩ : MethodName)) hown (mvT hZ (hw _ (List.mem_of_getElem? (i := 40) rfl))) (mvT hZ (hw _ (List.mem_of_getElem? (i := 41) rfl))) (notFace_of_selects (args := #[]) (mvT hZ (hw _ (List.mem_of_getElem? (i := 43) rfl)))) (mvT hZ (hw _ (List.mem_of_getElem? (i := 43) rfl))) (mvT hZ (hw _ (List.mem_of_getElem? (i := 42) rfl))) (by decide) (backOf (W := 0) (own_rm_supports l Z a0 hw [] r0 ((((own_mins ((p1 &&& (2147483647 : Int32)) % (17 : Int32))) - (2 : Int32)) + ((p2 &&& (2147483647 : Int32)) % (((own_maxs ((p1 &&& (2147483647 : Int32)) % (17 : Int32))) - (own_mins ((p1 &&& (2147483647 : Int32)) % (17 : Int32)))) + (5 : Int32)))).toInt16.toInt32) (own_mins ((p1 &&& (2147483647 : Int32)) % (17 : Int32))) (own_maxs ((p1 &&& (2147483647 : Int32)) % (17 : Int32))) h402 n0 Zs408 F429 F430) hZ (hw _ (List.mem_of_getElem? (i := 44) rfl)) (hw _ (List.mem_of_getElem? (i := 3) rfl)) (by decide) (by decide)) q426a q426c (g := (mkF m 380 #[.val (.int p1), .val (.int p2), .val (.int p3), .val (.ref b5), .val (.ref b166), .val (.ref b278), .val (.int ((p1 &&& (2147483647 : Int32)) % (17 : Int32))), .val (.int (own_mins ((p1 &&& (2147483647 : Int32)) % (17 : Int32)))), .val (.int (own_maxs ((p1 &&& (2147483647 : Int32)) % (17 : Int32)))), .val (.int ((((own_mins ((p1 &&& (2147483647 : Int32)) % (17 : Int32))) - (2 : Int32)) + ((p2 &&& (2147483647 : Int32)) % (((own_maxs ((p1 &&& (2147483647 : Int32)) % (17 : Int32))) - (own_mins ((p1 &&& (2147483647 : Int32)) % (17 : Int32)))) + (5 : Int32)))).toInt16.toInt32)), .val (.int ((((own_mins ((p1 &&& (2147483647 : Int32)) % (17 : Int32))) - (2 : Int32)) + ((p2 &&& (2147483647 : Int32)) % (((own_maxs ((p1 &&& (2147483647 : Int32)) % (17 : Int32))) - (own_mins ((p1 &&& (2147483647 : Int32)) % (17 : Int32)))) + (5 : Int32)))).toInt16.toInt32)), .val (.int (0 : Int32))] [(.int ((((own_mins ((p1 &&& (2147483647 : Int32)) % (17 : Int32))) - (2 : Int32)) + ((p2 &&& (2147483647 : Int32)) % (((own_maxs ((p1 &&& (2147483647 : Int32)) % (17 : Int32))) - (own_mins ((p1 &&& (2147483647 : Int32)) % (17 : Int32)))) + (5 : Int32)))).toInt16.toInt32)), (.ref r0)])) rfl (by rw [hml]; rfl) (Steps.refl _) (argsL := [(.int ((((own_mins ((p1 &&& (2147483647 : Int32)) % (17 : Int32))) - (2 : Int32)) + ((p2 &&& (2147483647 : Int32)) % (((own_maxs ((p1 &&& (2147483647 : Int32)) % (17 : Int32))) - (own_mins ((p1 &&& (2147483647 : Int32)) % (17 : Int32)))) + (5 : Int32)))).toInt16.toInt32))]) (rest := []) (lenOf own_pd0 rfl) rfl (by show 2 * 0 + _ ≤ _; exact Nat.le_of_eq rfl) (hb hby at_380) (fun _ _ => ⟨rfl, e402, (by decide : 3 + 0 ≤ _), (by decide : 51 + 0 ≤ _)⟩)
        dsimp only [Pt.U, Pt.locs, Pt.cells, Pt.slots] at X426 l426 y426 z426 st426 hQ426
        subst l426 y426 z426
        obtain ⟨N426q, rfl, eh426⟩ := hQ426
        have N431 := Fr.app N403 N426q
        refine own_tr st426 ?_
        obtain ⟨Lp432, Xp432, Np432⟩ : ∃ L, Stand p l e room_1 s m #[(.int p1), (.int p2), (.int p3)] below meth c T426 L 3 51 ∧ Fr n0 L := ⟨_, X426, N431⟩
        show own_Go p e below s _ _ _ (T426.setTop (mkF m 383 #[.val (.int p1), .val (.int p2), .val (.int p3), .val (.ref b5), .val (.ref b166), .val (.ref b278), .val (.int ((p1 &&& (2147483647 : Int32)) % (17 : Int32))), .val (.int (own_mins ((p1 &&& (2147483647 : Int32)) % (17 : Int32)))), .val (.int (own_maxs ((p1 &&& (2147483647 : Int32)) % (17 : Int32)))), .val (.int ((((own_mins ((p1 &&& (2147483647 : Int32)) % (17 : Int32))) - (2 : Int32)) + ((p2 &&& (2147483647 : Int32)) % (((own_maxs ((p1 &&& (2147483647 : Int32)) % (17 : Int32))) - (own_mins ((p1 &&& (2147483647 : Int32)) % (17 : Int32)))) + (5 : Int32)))).toInt16.toInt32)), .val (.int ((((own_mins ((p1 &&& (2147483647 : Int32)) % (17 : Int32))) - (2 : Int32)) + ((p2 &&& (2147483647 : Int32)) % (((own_maxs ((p1 &&& (2147483647 : Int32)) % (17 : Int32))) - (own_mins ((p1 &&& (2147483647 : Int32)) % (17 : Int32)))) + (5 : Int32)))).toInt16.toInt32)), .val (.int (0 : Int32))] [(.int (if ((((own_mins ((p1 &&& (2147483647 : Int32)) % (17 : Int32))) - (2 : Int32)) + ((p2 &&& (2147483647 : Int32)) % (((own_maxs ((p1 &&& (2147483647 : Int32)) % (17 : Int32))) - (own_mins ((p1 &&& (2147483647 : Int32)) % (17 : Int32)))) + (5 : Int32)))).toInt16.toInt32) < (own_mins ((p1 &&& (2147483647 : Int32)) % (17 : Int32))) then (0 : Int32) else if (own_maxs ((p1 &&& (2147483647 : Int32)) % (17 : Int32))) < ((((own_mins ((p1 &&& (2147483647 : Int32)) % (17 : Int32))) - (2 : Int32)) + ((p2 &&& (2147483647 : Int32)) % (((own_maxs ((p1 &&& (2147483647 : Int32)) % (17 : Int32))) - (own_mins ((p1 &&& (2147483647 : Int32)) % (17 : Int32)))) + (5 : Int32)))).toInt16.toInt32) then 0 else 1))]))
        refine own_st (fun _ kQ => XS.iload Xp432.here hx rfl (hb hby at_383) rfl kQ) ?_
        show own_Go p e below s _ _ _ (T426.setTop (mkF m 385 #[.val (.int p1), .val (.int p2), .val (.int p3), .val (.ref b5), .val (.ref b166), .val (.ref b278), .val (.int ((p1 &&& (2147483647 : Int32)) % (17 : Int32))), .val (.int (own_mins ((p1 &&& (2147483647 : Int32)) % (17 : Int32)))), .val (.int (own_maxs ((p1 &&& (2147483647 : Int32)) % (17 : Int32)))), .val (.int ((((own_mins ((p1 &&& (2147483647 : Int32)) % (17 : Int32))) - (2 : Int32)) + ((p2 &&& (2147483647 : Int32)) % (((own_maxs ((p1 &&& (2147483647 : Int32)) % (17 : Int32))) - (own_mins ((p1 &&& (2147483647 : Int32)) % (17 : Int32)))) + (5 : Int32)))).toInt16.toInt32)), .val (.int ((((own_mins ((p1 &&& (2147483647 : Int32)) % (17 : Int32))) - (2 : Int32)) + ((p2 &&& (2147483647 : Int32)) % (((own_maxs ((p1 &&& (2147483647 : Int32)) % (17 : Int32))) - (own_mins ((p1 &&& (2147483647 : Int32)) % (17 : Int32)))) + (5 : Int32)))).toInt16.toInt32)), .val (.int (0 : Int32))] [(.int (0 : Int32)), (.int (if ((((own_mins ((p1 &&& (2147483647 : Int32)) % (17 : Int32))) - (2 : Int32)) + ((p2 &&& (2147483647 : Int32)) % (((own_maxs ((p1 &&& (2147483647 : Int32)) % (17 : Int32))) - (own_mins ((p1 &&& (2147483647 : Int32)) % (17 : Int32)))) + (5 : Int32)))).toInt16.toInt32) < (own_mins ((p1 &&& (2147483647 : Int32)) % (17 : Int32))) then (0 : Int32) else if (own_maxs ((p1 &&& (2147483647 : Int32)) % (17 : Int32))) < ((((own_mins ((p1 &&& (2147483647 : Int32)) % (17 : Int32))) - (2 : Int32)) + ((p2 &&& (2147483647 : Int32)) % (((own_maxs ((p1 &&& (2147483647 : Int32)) % (17 : Int32))) - (own_mins ((p1 &&& (2147483647 : Int32)) % (17 : Int32)))) + (5 : Int32)))).toInt16.toInt32) then 0 else 1))]))
        refine own_st (fun _ kQ => XS.icmpNo Xp432.here hx rfl (hb hby at_385) rfl (XT.ii_ne_f (by rw [if_neg hc413, if_pos hc423])) kQ) ?_
        show own_Go p e below s _ _ _ (T426.setTop (mkF m 388 #[.val (.int p1), .val (.int p2), .val (.int p3), .val (.ref b5), .val (.ref b166), .val (.ref b278), .val (.int ((p1 &&& (2147483647 : Int32)) % (17 : Int32))), .val (.int (own_mins ((p1 &&& (2147483647 : Int32)) % (17 : Int32)))), .val (.int (own_maxs ((p1 &&& (2147483647 : Int32)) % (17 : Int32)))), .val (.int ((((own_mins ((p1 &&& (2147483647 : Int32)) % (17 : Int32))) - (2 : Int32)) + ((p2 &&& (2147483647 : Int32)) % (((own_maxs ((p1 &&& (2147483647 : Int32)) % (17 : Int32))) - (own_mins ((p1 &&& (2147483647 : Int32)) % (17 : Int32)))) + (5 : Int32)))).toInt16.toInt32)), .val (.int ((((own_mins ((p1 &&& (2147483647 : Int32)) % (17 : Int32))) - (2 : Int32)) + ((p2 &&& (2147483647 : Int32)) % (((own_maxs ((p1 &&& (2147483647 : Int32)) % (17 : Int32))) - (own_mins ((p1 &&& (2147483647 : Int32)) % (17 : Int32)))) + (5 : Int32)))).toInt16.toInt32)), .val (.int (0 : Int32))] []))
        refine own_st (fun _ kQ => XT.iconstV Xp432.here hx rfl (1 : Int32) (hb hby at_388) (by decide) kQ) ?_
        show own_Go p e below s _ _ _ (T426.setTop (mkF m 389 #[.val (.int p1), .val (.int p2), .val (.int p3), .val (.ref b5), .val (.ref b166), .val (.ref b278), .val (.int ((p1 &&& (2147483647 : Int32)) % (17 : Int32))), .val (.int (own_mins ((p1 &&& (2147483647 : Int32)) % (17 : Int32)))), .val (.int (own_maxs ((p1 &&& (2147483647 : Int32)) % (17 : Int32)))), .val (.int ((((own_mins ((p1 &&& (2147483647 : Int32)) % (17 : Int32))) - (2 : Int32)) + ((p2 &&& (2147483647 : Int32)) % (((own_maxs ((p1 &&& (2147483647 : Int32)) % (17 : Int32))) - (own_mins ((p1 &&& (2147483647 : Int32)) % (17 : Int32)))) + (5 : Int32)))).toInt16.toInt32)), .val (.int ((((own_mins ((p1 &&& (2147483647 : Int32)) % (17 : Int32))) - (2 : Int32)) + ((p2 &&& (2147483647 : Int32)) % (((own_maxs ((p1 &&& (2147483647 : Int32)) % (17 : Int32))) - (own_mins ((p1 &&& (2147483647 : Int32)) % (17 : Int32)))) + (5 : Int32)))).toInt16.toInt32)), .val (.int (0 : Int32))] [(.int (1 : Int32))]))
        refine own_st (fun _ kQ => XS.goto Xp432.here hx rfl (pc0 := 389) (pc' := 393) rfl (hb hby at_389) (by decide) (by decide) kQ) ?_
        show own_Go p e below s _ _ _ (T426.setTop (mkF m 393 #[.val (.int p1), .val (.int p2), .val (.int p3), .val (.ref b5), .val (.ref b166), .val (.ref b278), .val (.int ((p1 &&& (2147483647 : Int32)) % (17 : Int32))), .val (.int (own_mins ((p1 &&& (2147483647 : Int32)) % (17 : Int32)))), .val (.int (own_maxs ((p1 &&& (2147483647 : Int32)) % (17 : Int32)))), .val (.int ((((own_mins ((p1 &&& (2147483647 : Int32)) % (17 : Int32))) - (2 : Int32)) + ((p2 &&& (2147483647 : Int32)) % (((own_maxs ((p1 &&& (2147483647 : Int32)) % (17 : Int32))) - (own_mins ((p1 &&& (2147483647 : Int32)) % (17 : Int32)))) + (5 : Int32)))).toInt16.toInt32)), .val (.int ((((own_mins ((p1 &&& (2147483647 : Int32)) % (17 : Int32))) - (2 : Int32)) + ((p2 &&& (2147483647 : Int32)) % (((own_maxs ((p1 &&& (2147483647 : Int32)) % (17 : Int32))) - (own_mins ((p1 &&& (2147483647 : Int32)) % (17 : Int32)))) + (5 : Int32)))).toInt16.toInt32)), .val (.int (0 : Int32))] [(.int (1 : Int32))]))
        refine own_retN Xp432 hx hlk Bd.returns (t := .boolean) (z' := (1 : Int32)) (by simp) (by decide) (hb hby at_393) (by decide) (by decide) ?_
        rw [eh426]
        exact ⟨Np432, rfl⟩
      · refine own_st (fun _ kQ => XS.icmpNo X402.here hx rfl (hb hby at_364) rfl (XT.ii_gt_f hc423) kQ) ?_
        show own_Go p e below s _ _ _ (T402.setTop (mkF m 367 #[.val (.int p1), .val (.int p2), .val (.int p3), .val (.ref b5), .val (.ref b166), .val (.ref b278), .val (.int ((p1 &&& (2147483647 : Int32)) % (17 : Int32))), .val (.int (own_mins ((p1 &&& (2147483647 : Int32)) % (17 : Int32)))), .val (.int (own_maxs ((p1 &&& (2147483647 : Int32)) % (17 : Int32)))), .val (.int ((((own_mins ((p1 &&& (2147483647 : Int32)) % (17 : Int32))) - (2 : Int32)) + ((p2 &&& (2147483647 : Int32)) % (((own_maxs ((p1 &&& (2147483647 : Int32)) % (17 : Int32))) - (own_mins ((p1 &&& (2147483647 : Int32)) % (17 : Int32)))) + (5 : Int32)))).toInt16.toInt32)), .val (.int ((((own_mins ((p1 &&& (2147483647 : Int32)) % (17 : Int32))) - (2 : Int32)) + ((p2 &&& (2147483647 : Int32)) % (((own_maxs ((p1 &&& (2147483647 : Int32)) % (17 : Int32))) - (own_mins ((p1 &&& (2147483647 : Int32)) % (17 : Int32)))) + (5 : Int32)))).toInt16.toInt32)), .unset] []))
        refine own_st (fun _ kQ => XT.iconstV X402.here hx rfl (1 : Int32) (hb hby at_367) (by decide) kQ) ?_
        show own_Go p e below s _ _ _ (T402.setTop (mkF m 368 #[.val (.int p1), .val (.int p2), .val (.int p3), .val (.ref b5), .val (.ref b166), .val (.ref b278), .val (.int ((p1 &&& (2147483647 : Int32)) % (17 : Int32))), .val (.int (own_mins ((p1 &&& (2147483647 : Int32)) % (17 : Int32)))), .val (.int (own_maxs ((p1 &&& (2147483647 : Int32)) % (17 : Int32)))), .val (.int ((((own_mins ((p1 &&& (2147483647 : Int32)) % (17 : Int32))) - (2 : Int32)) + ((p2 &&& (2147483647 : Int32)) % (((own_maxs ((p1 &&& (2147483647 : Int32)) % (17 : Int32))) - (own_mins ((p1 &&& (2147483647 : Int32)) % (17 : Int32)))) + (5 : Int32)))).toInt16.toInt32)), .val (.int ((((own_mins ((p1 &&& (2147483647 : Int32)) % (17 : Int32))) - (2 : Int32)) + ((p2 &&& (2147483647 : Int32)) % (((own_maxs ((p1 &&& (2147483647 : Int32)) % (17 : Int32))) - (own_mins ((p1 &&& (2147483647 : Int32)) % (17 : Int32)))) + (5 : Int32)))).toInt16.toInt32)), .unset] [(.int (1 : Int32))]))
        refine own_st (fun _ kQ => XS.goto X402.here hx rfl (pc0 := 368) (pc' := 372) rfl (hb hby at_368) (by decide) (by decide) kQ) ?_
        show own_Go p e below s _ _ _ (T402.setTop (mkF m 372 #[.val (.int p1), .val (.int p2), .val (.int p3), .val (.ref b5), .val (.ref b166), .val (.ref b278), .val (.int ((p1 &&& (2147483647 : Int32)) % (17 : Int32))), .val (.int (own_mins ((p1 &&& (2147483647 : Int32)) % (17 : Int32)))), .val (.int (own_maxs ((p1 &&& (2147483647 : Int32)) % (17 : Int32)))), .val (.int ((((own_mins ((p1 &&& (2147483647 : Int32)) % (17 : Int32))) - (2 : Int32)) + ((p2 &&& (2147483647 : Int32)) % (((own_maxs ((p1 &&& (2147483647 : Int32)) % (17 : Int32))) - (own_mins ((p1 &&& (2147483647 : Int32)) % (17 : Int32)))) + (5 : Int32)))).toInt16.toInt32)), .val (.int ((((own_mins ((p1 &&& (2147483647 : Int32)) % (17 : Int32))) - (2 : Int32)) + ((p2 &&& (2147483647 : Int32)) % (((own_maxs ((p1 &&& (2147483647 : Int32)) % (17 : Int32))) - (own_mins ((p1 &&& (2147483647 : Int32)) % (17 : Int32)))) + (5 : Int32)))).toInt16.toInt32)), .unset] [(.int (1 : Int32))]))
        refine own_st (fun _ kQ => XS.istore X402.here hx rfl (hb hby at_372) rfl (l' := #[.val (.int p1), .val (.int p2), .val (.int p3), .val (.ref b5), .val (.ref b166), .val (.ref b278), .val (.int ((p1 &&& (2147483647 : Int32)) % (17 : Int32))), .val (.int (own_mins ((p1 &&& (2147483647 : Int32)) % (17 : Int32)))), .val (.int (own_maxs ((p1 &&& (2147483647 : Int32)) % (17 : Int32)))), .val (.int ((((own_mins ((p1 &&& (2147483647 : Int32)) % (17 : Int32))) - (2 : Int32)) + ((p2 &&& (2147483647 : Int32)) % (((own_maxs ((p1 &&& (2147483647 : Int32)) % (17 : Int32))) - (own_mins ((p1 &&& (2147483647 : Int32)) % (17 : Int32)))) + (5 : Int32)))).toInt16.toInt32)), .val (.int ((((own_mins ((p1 &&& (2147483647 : Int32)) % (17 : Int32))) - (2 : Int32)) + ((p2 &&& (2147483647 : Int32)) % (((own_maxs ((p1 &&& (2147483647 : Int32)) % (17 : Int32))) - (own_mins ((p1 &&& (2147483647 : Int32)) % (17 : Int32)))) + (5 : Int32)))).toInt16.toInt32)), .val (.int (1 : Int32))]) rfl kQ) ?_
        show own_Go p e below s _ _ _ (T402.setTop (mkF m 374 #[.val (.int p1), .val (.int p2), .val (.int p3), .val (.ref b5), .val (.ref b166), .val (.ref b278), .val (.int ((p1 &&& (2147483647 : Int32)) % (17 : Int32))), .val (.int (own_mins ((p1 &&& (2147483647 : Int32)) % (17 : Int32)))), .val (.int (own_maxs ((p1 &&& (2147483647 : Int32)) % (17 : Int32)))), .val (.int ((((own_mins ((p1 &&& (2147483647 : Int32)) % (17 : Int32))) - (2 : Int32)) + ((p2 &&& (2147483647 : Int32)) % (((own_maxs ((p1 &&& (2147483647 : Int32)) % (17 : Int32))) - (own_mins ((p1 &&& (2147483647 : Int32)) % (17 : Int32)))) + (5 : Int32)))).toInt16.toInt32)), .val (.int ((((own_mins ((p1 &&& (2147483647 : Int32)) % (17 : Int32))) - (2 : Int32)) + ((p2 &&& (2147483647 : Int32)) % (((own_maxs ((p1 &&& (2147483647 : Int32)) % (17 : Int32))) - (own_mins ((p1 &&& (2147483647 : Int32)) % (17 : Int32)))) + (5 : Int32)))).toInt16.toInt32)), .val (.int (1 : Int32))] []))
        refine own_st (fun _ kQ => XS.aloadN X402.here hx rfl (hb hby at_374) rfl rfl kQ) ?_
        show own_Go p e below s _ _ _ (T402.setTop (mkF m 375 #[.val (.int p1), .val (.int p2), .val (.int p3), .val (.ref b5), .val (.ref b166), .val (.ref b278), .val (.int ((p1 &&& (2147483647 : Int32)) % (17 : Int32))), .val (.int (own_mins ((p1 &&& (2147483647 : Int32)) % (17 : Int32)))), .val (.int (own_maxs ((p1 &&& (2147483647 : Int32)) % (17 : Int32)))), .val (.int ((((own_mins ((p1 &&& (2147483647 : Int32)) % (17 : Int32))) - (2 : Int32)) + ((p2 &&& (2147483647 : Int32)) % (((own_maxs ((p1 &&& (2147483647 : Int32)) % (17 : Int32))) - (own_mins ((p1 &&& (2147483647 : Int32)) % (17 : Int32)))) + (5 : Int32)))).toInt16.toInt32)), .val (.int ((((own_mins ((p1 &&& (2147483647 : Int32)) % (17 : Int32))) - (2 : Int32)) + ((p2 &&& (2147483647 : Int32)) % (((own_maxs ((p1 &&& (2147483647 : Int32)) % (17 : Int32))) - (own_mins ((p1 &&& (2147483647 : Int32)) % (17 : Int32)))) + (5 : Int32)))).toInt16.toInt32)), .val (.int (1 : Int32))] [(.ref b5)]))
        refine own_st (fun _ kQ => XS.iload X402.here hx rfl (hb hby at_375) rfl kQ) ?_
        show own_Go p e below s _ _ _ (T402.setTop (mkF m 377 #[.val (.int p1), .val (.int p2), .val (.int p3), .val (.ref b5), .val (.ref b166), .val (.ref b278), .val (.int ((p1 &&& (2147483647 : Int32)) % (17 : Int32))), .val (.int (own_mins ((p1 &&& (2147483647 : Int32)) % (17 : Int32)))), .val (.int (own_maxs ((p1 &&& (2147483647 : Int32)) % (17 : Int32)))), .val (.int ((((own_mins ((p1 &&& (2147483647 : Int32)) % (17 : Int32))) - (2 : Int32)) + ((p2 &&& (2147483647 : Int32)) % (((own_maxs ((p1 &&& (2147483647 : Int32)) % (17 : Int32))) - (own_mins ((p1 &&& (2147483647 : Int32)) % (17 : Int32)))) + (5 : Int32)))).toInt16.toInt32)), .val (.int ((((own_mins ((p1 &&& (2147483647 : Int32)) % (17 : Int32))) - (2 : Int32)) + ((p2 &&& (2147483647 : Int32)) % (((own_maxs ((p1 &&& (2147483647 : Int32)) % (17 : Int32))) - (own_mins ((p1 &&& (2147483647 : Int32)) % (17 : Int32)))) + (5 : Int32)))).toInt16.toInt32)), .val (.int (1 : Int32))] [(.int ((p1 &&& (2147483647 : Int32)) % (17 : Int32))), (.ref b5)]))
        have F433 : Arv Z h402 b5 k5 (.object "com/example/epoch/epoch/protocol/ApiKey") (17 : Int32) [(.ref a_PRODUCE), (.ref a_FETCH), (.ref a_LIST_OFFSETS), (.ref a_METADATA), (.ref a_OFFSET_COMMIT), (.ref a_OFFSET_FETCH), (.ref a_FIND_COORDINATOR), (.ref a_JOIN_GROUP), (.ref a_HEARTBEAT), (.ref a_LEAVE_GROUP), (.ref a_SYNC_GROUP), (.ref a_API_VERSIONS), (.ref a_INIT_PRODUCER_ID), (.ref a_ADD_PARTITIONS_TO_TXN), (.ref a_ADD_OFFSETS_TO_TXN), (.ref a_END_TXN), (.ref a_TXN_OFFSET_COMMIT)] .null := ((((((((((((((((((((((((((((((((((((F163.ext E166).other W172 ne169).other W178 ne169).other W184 ne169).other W191 ne169).other W197 ne169).other W203 ne169).other W209 ne169).other W216 ne169).other W222 ne169).other W228 ne169).other W234 ne169).other W241 ne169).other W247 ne169).other W253 ne169).other W259 ne169).other W266 ne169).other W272 ne169).ext E278).other W286 ne282).other W293 ne282).other W301 ne282).other W308 ne282).other W315 ne282).other W322 ne282).other W330 ne282).other W337 ne282).other W344 ne282).other W351 ne282).other W359 ne282).other W366 ne282).other W373 ne282).other W380 ne282).other W388 ne282).other W395 ne282).other W402 ne282)
        obtain ⟨cl434, Ar434, kc434, S434, Nn434, H434, G434⟩ := id F433
        obtain ⟨r0, hr0, Er0, Fn0, Fx0⟩ : ∃ r : Addr, ([(.ref a_PRODUCE), (.ref a_FETCH), (.ref a_LIST_OFFSETS), (.ref a_METADATA), (.ref a_OFFSET_COMMIT), (.ref a_OFFSET_FETCH), (.ref a_FIND_COORDINATOR), (.ref a_JOIN_GROUP), (.ref a_HEARTBEAT), (.ref a_LEAVE_GROUP), (.ref a_SYNC_GROUP), (.ref a_API_VERSIONS), (.ref a_INIT_PRODUCER_ID), (.ref a_ADD_PARTITIONS_TO_TXN), (.ref a_ADD_OFFSETS_TO_TXN), (.ref a_END_TXN), (.ref a_TXN_OFFSET_COMMIT)] : List Value).getD (((p1 &&& (2147483647 : Int32)) % (17 : Int32))).toNatClampNeg .null = .ref r ∧ Exa Z Z.heap r "com/example/epoch/epoch/protocol/ApiKey" ∧ Fld Z Z.heap r "com/example/epoch/epoch/protocol/ApiKey" "minVersion" "S" (.int (own_mins ((p1 &&& (2147483647 : Int32)) % (17 : Int32)))) ∧ Fld Z Z.heap r "com/example/epoch/epoch/protocol/ApiKey" "maxVersion" "S" (.int (own_maxs ((p1 &&& (2147483647 : Int32)) % (17 : Int32)))) := by
          rcases own_lits17 p1 with h | h | h | h | h | h | h | h | h | h | h | h | h | h | h | h | h <;> rw [h]
          · exact ⟨a_PRODUCE, rfl, Ex_a_PRODUCE, F_PRODUCE_minVersion, F_PRODUCE_maxVersion⟩
          · exact ⟨a_FETCH, rfl, Ex_a_FETCH, F_FETCH_minVersion, F_FETCH_maxVersion⟩
          · exact ⟨a_LIST_OFFSETS, rfl, Ex_a_LIST_OFFSETS, F_LIST_OFFSETS_minVersion, F_LIST_OFFSETS_maxVersion⟩
          · exact ⟨a_METADATA, rfl, Ex_a_METADATA, F_METADATA_minVersion, F_METADATA_maxVersion⟩
          · exact ⟨a_OFFSET_COMMIT, rfl, Ex_a_OFFSET_COMMIT, F_OFFSET_COMMIT_minVersion, F_OFFSET_COMMIT_maxVersion⟩
          · exact ⟨a_OFFSET_FETCH, rfl, Ex_a_OFFSET_FETCH, F_OFFSET_FETCH_minVersion, F_OFFSET_FETCH_maxVersion⟩
          · exact ⟨a_FIND_COORDINATOR, rfl, Ex_a_FIND_COORDINATOR, F_FIND_COORDINATOR_minVersion, F_FIND_COORDINATOR_maxVersion⟩
          · exact ⟨a_JOIN_GROUP, rfl, Ex_a_JOIN_GROUP, F_JOIN_GROUP_minVersion, F_JOIN_GROUP_maxVersion⟩
          · exact ⟨a_HEARTBEAT, rfl, Ex_a_HEARTBEAT, F_HEARTBEAT_minVersion, F_HEARTBEAT_maxVersion⟩
          · exact ⟨a_LEAVE_GROUP, rfl, Ex_a_LEAVE_GROUP, F_LEAVE_GROUP_minVersion, F_LEAVE_GROUP_maxVersion⟩
          · exact ⟨a_SYNC_GROUP, rfl, Ex_a_SYNC_GROUP, F_SYNC_GROUP_minVersion, F_SYNC_GROUP_maxVersion⟩
          · exact ⟨a_API_VERSIONS, rfl, Ex_a_API_VERSIONS, F_API_VERSIONS_minVersion, F_API_VERSIONS_maxVersion⟩
          · exact ⟨a_INIT_PRODUCER_ID, rfl, Ex_a_INIT_PRODUCER_ID, F_INIT_PRODUCER_ID_minVersion, F_INIT_PRODUCER_ID_maxVersion⟩
          · exact ⟨a_ADD_PARTITIONS_TO_TXN, rfl, Ex_a_ADD_PARTITIONS_TO_TXN, F_ADD_PARTITIONS_TO_TXN_minVersion, F_ADD_PARTITIONS_TO_TXN_maxVersion⟩
          · exact ⟨a_ADD_OFFSETS_TO_TXN, rfl, Ex_a_ADD_OFFSETS_TO_TXN, F_ADD_OFFSETS_TO_TXN_minVersion, F_ADD_OFFSETS_TO_TXN_maxVersion⟩
          · exact ⟨a_END_TXN, rfl, Ex_a_END_TXN, F_END_TXN_minVersion, F_END_TXN_maxVersion⟩
          · exact ⟨a_TXN_OFFSET_COMMIT, rfl, Ex_a_TXN_OFFSET_COMMIT, F_TXN_OFFSET_COMMIT_minVersion, F_TXN_OFFSET_COMMIT_maxVersion⟩
        have hin434 : ¬ (((p1 &&& (2147483647 : Int32)) % (17 : Int32)) < 0 ∨ cl434.slots.size ≤ (((p1 &&& (2147483647 : Int32)) % (17 : Int32)) : Int32).toNatClampNeg) := inb_of S434 (by rcases own_lits17 p1 with h | h | h | h | h | h | h | h | h | h | h | h | h | h | h | h | h <;> rw [h] <;> decide)
        have hat434 : cl434.slots[(((p1 &&& (2147483647 : Int32)) % (17 : Int32)) : Int32).toNatClampNeg]? = some (.ref r0) := H434.at hin434 hr0
        refine own_st (fun _ kQ => X402.aaload hx (j := ((p1 &&& (2147483647 : Int32)) % (17 : Int32))) (v := (.ref r0)) (own_hp e402 Ar434.1) (State.isArrayOf_alike hZ.alike Ar434.2.1) rfl Ar434.2.2 hin434 hat434 (g := (mkF m 377 #[.val (.int p1), .val (.int p2), .val (.int p3), .val (.ref b5), .val (.ref b166), .val (.ref b278), .val (.int ((p1 &&& (2147483647 : Int32)) % (17 : Int32))), .val (.int (own_mins ((p1 &&& (2147483647 : Int32)) % (17 : Int32)))), .val (.int (own_maxs ((p1 &&& (2147483647 : Int32)) % (17 : Int32)))), .val (.int ((((own_mins ((p1 &&& (2147483647 : Int32)) % (17 : Int32))) - (2 : Int32)) + ((p2 &&& (2147483647 : Int32)) % (((own_maxs ((p1 &&& (2147483647 : Int32)) % (17 : Int32))) - (own_mins ((p1 &&& (2147483647 : Int32)) % (17 : Int32)))) + (5 : Int32)))).toInt16.toInt32)), .val (.int ((((own_mins ((p1 &&& (2147483647 : Int32)) % (17 : Int32))) - (2 : Int32)) + ((p2 &&& (2147483647 : Int32)) % (((own_maxs ((p1 &&& (2147483647 : Int32)) % (17 : Int32))) - (own_mins ((p1 &&& (2147483647 : Int32)) % (17 : Int32)))) + (5 : Int32)))).toInt16.toInt32)), .val (.int (1 : Int32))] [(.int ((p1 &&& (2147483647 : Int32)) % (17 : Int32))), (.ref b5)])) rfl rfl (hb hby at_377) _ kQ) ?_
        show own_Go p e below s _ _ _ (T402.setTop (mkF m 378 #[.val (.int p1), .val (.int p2), .val (.int p3), .val (.ref b5), .val (.ref b166), .val (.ref b278), .val (.int ((p1 &&& (2147483647 : Int32)) % (17 : Int32))), .val (.int (own_mins ((p1 &&& (2147483647 : Int32)) % (17 : Int32)))), .val (.int (own_maxs ((p1 &&& (2147483647 : Int32)) % (17 : Int32)))), .val (.int ((((own_mins ((p1 &&& (2147483647 : Int32)) % (17 : Int32))) - (2 : Int32)) + ((p2 &&& (2147483647 : Int32)) % (((own_maxs ((p1 &&& (2147483647 : Int32)) % (17 : Int32))) - (own_mins ((p1 &&& (2147483647 : Int32)) % (17 : Int32)))) + (5 : Int32)))).toInt16.toInt32)), .val (.int ((((own_mins ((p1 &&& (2147483647 : Int32)) % (17 : Int32))) - (2 : Int32)) + ((p2 &&& (2147483647 : Int32)) % (((own_maxs ((p1 &&& (2147483647 : Int32)) % (17 : Int32))) - (own_mins ((p1 &&& (2147483647 : Int32)) % (17 : Int32)))) + (5 : Int32)))).toInt16.toInt32)), .val (.int (1 : Int32))] [(.ref r0)]))
        refine own_st (fun _ kQ => XS.iload X402.here hx rfl (hb hby at_378) rfl kQ) ?_
        show own_Go p e below s _ _ _ (T402.setTop (mkF m 380 #[.val (.int p1), .val (.int p2), .val (.int p3), .val (.ref b5), .val (.ref b166), .val (.ref b278), .val (.int ((p1 &&& (2147483647 : Int32)) % (17 : Int32))), .val (.int (own_mins ((p1 &&& (2147483647 : Int32)) % (17 : Int32)))), .val (.int (own_maxs ((p1 &&& (2147483647 : Int32)) % (17 : Int32)))), .val (.int ((((own_mins ((p1 &&& (2147483647 : Int32)) % (17 : Int32))) - (2 : Int32)) + ((p2 &&& (2147483647 : Int32)) % (((own_maxs ((p1 &&& (2147483647 : Int32)) % (17 : Int32))) - (own_mins ((p1 &&& (2147483647 : Int32)) % (17 : Int32)))) + (5 : Int32)))).toInt16.toInt32)), .val (.int ((((own_mins ((p1 &&& (2147483647 : Int32)) % (17 : Int32))) - (2 : Int32)) + ((p2 &&& (2147483647 : Int32)) % (((own_maxs ((p1 &&& (2147483647 : Int32)) % (17 : Int32))) - (own_mins ((p1 &&& (2147483647 : Int32)) % (17 : Int32)))) + (5 : Int32)))).toInt16.toInt32)), .val (.int (1 : Int32))] [(.int ((((own_mins ((p1 &&& (2147483647 : Int32)) % (17 : Int32))) - (2 : Int32)) + ((p2 &&& (2147483647 : Int32)) % (((own_maxs ((p1 &&& (2147483647 : Int32)) % (17 : Int32))) - (own_mins ((p1 &&& (2147483647 : Int32)) % (17 : Int32)))) + (5 : Int32)))).toInt16.toInt32)), (.ref r0)]))
        have O436 : Old Z n0 h402 := (((((((((((((((((((((((((((((((((((((O157.wr W160 g7).ext E166).wr W172 g170).wr W178 g170).wr W184 g170).wr W191 g170).wr W197 g170).wr W203 g170).wr W209 g170).wr W216 g170).wr W222 g170).wr W228 g170).wr W234 g170).wr W241 g170).wr W247 g170).wr W253 g170).wr W259 g170).wr W266 g170).wr W272 g170).ext E278).wr W286 g284).wr W293 g284).wr W301 g284).wr W308 g284).wr W315 g284).wr W322 g284).wr W330 g284).wr W337 g284).wr W344 g284).wr W351 g284).wr W359 g284).wr W366 g284).wr W373 g284).wr W380 g284).wr W388 g284).wr W395 g284).wr W402 g284)
        have F437 : Exa Z h402 r0 "com/example/epoch/epoch/protocol/ApiKey" := Er0.ext O436.2
        have F438 : Fld Z h402 r0 "com/example/epoch/epoch/protocol/ApiKey" "minVersion" "S" (.int (own_mins ((p1 &&& (2147483647 : Int32)) % (17 : Int32)))) := Fn0.ext O436.2
        have F439 : Fld Z h402 r0 "com/example/epoch/epoch/protocol/ApiKey" "maxVersion" "S" (.int (own_maxs ((p1 &&& (2147483647 : Int32)) % (17 : Int32)))) := Fx0.ext O436.2
        obtain ⟨cq435, kq435, q435a, q435b, q435c⟩ := isOf hZ e402 F437
        obtain ⟨_, _, ⟨T435, L435, k435, n435⟩, -, X435, ⟨Lc435, hQ435, l435, y435, z435⟩, st435⟩ := X402.virtualBack hx (y := (⟨"com/example/epoch/epoch/protocol/ApiKey", "supports", "(S)Z"⟩ : MethodName)) (z := (⟨"com/example/epoch/epoch/protocol/ApiKey", "supports", "(S)Z"⟩ : MethodName)) hown (mvT hZ (hw _ (List.mem_of_getElem? (i := 40) rfl))) (mvT hZ (hw _ (List.mem_of_getElem? (i := 41) rfl))) (notFace_of_selects (args := #[]) (mvT hZ (hw _ (List.mem_of_getElem? (i := 43) rfl)))) (mvT hZ (hw _ (List.mem_of_getElem? (i := 43) rfl))) (mvT hZ (hw _ (List.mem_of_getElem? (i := 42) rfl))) (by decide) (backOf (W := 0) (own_rm_supports l Z a0 hw [] r0 ((((own_mins ((p1 &&& (2147483647 : Int32)) % (17 : Int32))) - (2 : Int32)) + ((p2 &&& (2147483647 : Int32)) % (((own_maxs ((p1 &&& (2147483647 : Int32)) % (17 : Int32))) - (own_mins ((p1 &&& (2147483647 : Int32)) % (17 : Int32)))) + (5 : Int32)))).toInt16.toInt32) (own_mins ((p1 &&& (2147483647 : Int32)) % (17 : Int32))) (own_maxs ((p1 &&& (2147483647 : Int32)) % (17 : Int32))) h402 n0 Zs408 F438 F439) hZ (hw _ (List.mem_of_getElem? (i := 44) rfl)) (hw _ (List.mem_of_getElem? (i := 3) rfl)) (by decide) (by decide)) q435a q435c (g := (mkF m 380 #[.val (.int p1), .val (.int p2), .val (.int p3), .val (.ref b5), .val (.ref b166), .val (.ref b278), .val (.int ((p1 &&& (2147483647 : Int32)) % (17 : Int32))), .val (.int (own_mins ((p1 &&& (2147483647 : Int32)) % (17 : Int32)))), .val (.int (own_maxs ((p1 &&& (2147483647 : Int32)) % (17 : Int32)))), .val (.int ((((own_mins ((p1 &&& (2147483647 : Int32)) % (17 : Int32))) - (2 : Int32)) + ((p2 &&& (2147483647 : Int32)) % (((own_maxs ((p1 &&& (2147483647 : Int32)) % (17 : Int32))) - (own_mins ((p1 &&& (2147483647 : Int32)) % (17 : Int32)))) + (5 : Int32)))).toInt16.toInt32)), .val (.int ((((own_mins ((p1 &&& (2147483647 : Int32)) % (17 : Int32))) - (2 : Int32)) + ((p2 &&& (2147483647 : Int32)) % (((own_maxs ((p1 &&& (2147483647 : Int32)) % (17 : Int32))) - (own_mins ((p1 &&& (2147483647 : Int32)) % (17 : Int32)))) + (5 : Int32)))).toInt16.toInt32)), .val (.int (1 : Int32))] [(.int ((((own_mins ((p1 &&& (2147483647 : Int32)) % (17 : Int32))) - (2 : Int32)) + ((p2 &&& (2147483647 : Int32)) % (((own_maxs ((p1 &&& (2147483647 : Int32)) % (17 : Int32))) - (own_mins ((p1 &&& (2147483647 : Int32)) % (17 : Int32)))) + (5 : Int32)))).toInt16.toInt32)), (.ref r0)])) rfl (by rw [hml]; rfl) (Steps.refl _) (argsL := [(.int ((((own_mins ((p1 &&& (2147483647 : Int32)) % (17 : Int32))) - (2 : Int32)) + ((p2 &&& (2147483647 : Int32)) % (((own_maxs ((p1 &&& (2147483647 : Int32)) % (17 : Int32))) - (own_mins ((p1 &&& (2147483647 : Int32)) % (17 : Int32)))) + (5 : Int32)))).toInt16.toInt32))]) (rest := []) (lenOf own_pd0 rfl) rfl (by show 2 * 0 + _ ≤ _; exact Nat.le_of_eq rfl) (hb hby at_380) (fun _ _ => ⟨rfl, e402, (by decide : 3 + 0 ≤ _), (by decide : 51 + 0 ≤ _)⟩)
        dsimp only [Pt.U, Pt.locs, Pt.cells, Pt.slots] at X435 l435 y435 z435 st435 hQ435
        subst l435 y435 z435
        obtain ⟨N435q, rfl, eh435⟩ := hQ435
        have N440 := Fr.app N403 N435q
        refine own_tr st435 ?_
        obtain ⟨Lp441, Xp441, Np441⟩ : ∃ L, Stand p l e room_1 s m #[(.int p1), (.int p2), (.int p3)] below meth c T435 L 3 51 ∧ Fr n0 L := ⟨_, X435, N440⟩
        show own_Go p e below s _ _ _ (T435.setTop (mkF m 383 #[.val (.int p1), .val (.int p2), .val (.int p3), .val (.ref b5), .val (.ref b166), .val (.ref b278), .val (.int ((p1 &&& (2147483647 : Int32)) % (17 : Int32))), .val (.int (own_mins ((p1 &&& (2147483647 : Int32)) % (17 : Int32)))), .val (.int (own_maxs ((p1 &&& (2147483647 : Int32)) % (17 : Int32)))), .val (.int ((((own_mins ((p1 &&& (2147483647 : Int32)) % (17 : Int32))) - (2 : Int32)) + ((p2 &&& (2147483647 : Int32)) % (((own_maxs ((p1 &&& (2147483647 : Int32)) % (17 : Int32))) - (own_mins ((p1 &&& (2147483647 : Int32)) % (17 : Int32)))) + (5 : Int32)))).toInt16.toInt32)), .val (.int ((((own_mins ((p1 &&& (2147483647 : Int32)) % (17 : Int32))) - (2 : Int32)) + ((p2 &&& (2147483647 : Int32)) % (((own_maxs ((p1 &&& (2147483647 : Int32)) % (17 : Int32))) - (own_mins ((p1 &&& (2147483647 : Int32)) % (17 : Int32)))) + (5 : Int32)))).toInt16.toInt32)), .val (.int (1 : Int32))] [(.int (if ((((own_mins ((p1 &&& (2147483647 : Int32)) % (17 : Int32))) - (2 : Int32)) + ((p2 &&& (2147483647 : Int32)) % (((own_maxs ((p1 &&& (2147483647 : Int32)) % (17 : Int32))) - (own_mins ((p1 &&& (2147483647 : Int32)) % (17 : Int32)))) + (5 : Int32)))).toInt16.toInt32) < (own_mins ((p1 &&& (2147483647 : Int32)) % (17 : Int32))) then (0 : Int32) else if (own_maxs ((p1 &&& (2147483647 : Int32)) % (17 : Int32))) < ((((own_mins ((p1 &&& (2147483647 : Int32)) % (17 : Int32))) - (2 : Int32)) + ((p2 &&& (2147483647 : Int32)) % (((own_maxs ((p1 &&& (2147483647 : Int32)) % (17 : Int32))) - (own_mins ((p1 &&& (2147483647 : Int32)) % (17 : Int32)))) + (5 : Int32)))).toInt16.toInt32) then 0 else 1))]))
        refine own_st (fun _ kQ => XS.iload Xp441.here hx rfl (hb hby at_383) rfl kQ) ?_
        show own_Go p e below s _ _ _ (T435.setTop (mkF m 385 #[.val (.int p1), .val (.int p2), .val (.int p3), .val (.ref b5), .val (.ref b166), .val (.ref b278), .val (.int ((p1 &&& (2147483647 : Int32)) % (17 : Int32))), .val (.int (own_mins ((p1 &&& (2147483647 : Int32)) % (17 : Int32)))), .val (.int (own_maxs ((p1 &&& (2147483647 : Int32)) % (17 : Int32)))), .val (.int ((((own_mins ((p1 &&& (2147483647 : Int32)) % (17 : Int32))) - (2 : Int32)) + ((p2 &&& (2147483647 : Int32)) % (((own_maxs ((p1 &&& (2147483647 : Int32)) % (17 : Int32))) - (own_mins ((p1 &&& (2147483647 : Int32)) % (17 : Int32)))) + (5 : Int32)))).toInt16.toInt32)), .val (.int ((((own_mins ((p1 &&& (2147483647 : Int32)) % (17 : Int32))) - (2 : Int32)) + ((p2 &&& (2147483647 : Int32)) % (((own_maxs ((p1 &&& (2147483647 : Int32)) % (17 : Int32))) - (own_mins ((p1 &&& (2147483647 : Int32)) % (17 : Int32)))) + (5 : Int32)))).toInt16.toInt32)), .val (.int (1 : Int32))] [(.int (1 : Int32)), (.int (if ((((own_mins ((p1 &&& (2147483647 : Int32)) % (17 : Int32))) - (2 : Int32)) + ((p2 &&& (2147483647 : Int32)) % (((own_maxs ((p1 &&& (2147483647 : Int32)) % (17 : Int32))) - (own_mins ((p1 &&& (2147483647 : Int32)) % (17 : Int32)))) + (5 : Int32)))).toInt16.toInt32) < (own_mins ((p1 &&& (2147483647 : Int32)) % (17 : Int32))) then (0 : Int32) else if (own_maxs ((p1 &&& (2147483647 : Int32)) % (17 : Int32))) < ((((own_mins ((p1 &&& (2147483647 : Int32)) % (17 : Int32))) - (2 : Int32)) + ((p2 &&& (2147483647 : Int32)) % (((own_maxs ((p1 &&& (2147483647 : Int32)) % (17 : Int32))) - (own_mins ((p1 &&& (2147483647 : Int32)) % (17 : Int32)))) + (5 : Int32)))).toInt16.toInt32) then 0 else 1))]))
        refine own_st (fun _ kQ => XS.icmpNo Xp441.here hx rfl (hb hby at_385) rfl (XT.ii_ne_f (by rw [if_neg hc413, if_neg hc423])) kQ) ?_
        show own_Go p e below s _ _ _ (T435.setTop (mkF m 388 #[.val (.int p1), .val (.int p2), .val (.int p3), .val (.ref b5), .val (.ref b166), .val (.ref b278), .val (.int ((p1 &&& (2147483647 : Int32)) % (17 : Int32))), .val (.int (own_mins ((p1 &&& (2147483647 : Int32)) % (17 : Int32)))), .val (.int (own_maxs ((p1 &&& (2147483647 : Int32)) % (17 : Int32)))), .val (.int ((((own_mins ((p1 &&& (2147483647 : Int32)) % (17 : Int32))) - (2 : Int32)) + ((p2 &&& (2147483647 : Int32)) % (((own_maxs ((p1 &&& (2147483647 : Int32)) % (17 : Int32))) - (own_mins ((p1 &&& (2147483647 : Int32)) % (17 : Int32)))) + (5 : Int32)))).toInt16.toInt32)), .val (.int ((((own_mins ((p1 &&& (2147483647 : Int32)) % (17 : Int32))) - (2 : Int32)) + ((p2 &&& (2147483647 : Int32)) % (((own_maxs ((p1 &&& (2147483647 : Int32)) % (17 : Int32))) - (own_mins ((p1 &&& (2147483647 : Int32)) % (17 : Int32)))) + (5 : Int32)))).toInt16.toInt32)), .val (.int (1 : Int32))] []))
        refine own_st (fun _ kQ => XT.iconstV Xp441.here hx rfl (1 : Int32) (hb hby at_388) (by decide) kQ) ?_
        show own_Go p e below s _ _ _ (T435.setTop (mkF m 389 #[.val (.int p1), .val (.int p2), .val (.int p3), .val (.ref b5), .val (.ref b166), .val (.ref b278), .val (.int ((p1 &&& (2147483647 : Int32)) % (17 : Int32))), .val (.int (own_mins ((p1 &&& (2147483647 : Int32)) % (17 : Int32)))), .val (.int (own_maxs ((p1 &&& (2147483647 : Int32)) % (17 : Int32)))), .val (.int ((((own_mins ((p1 &&& (2147483647 : Int32)) % (17 : Int32))) - (2 : Int32)) + ((p2 &&& (2147483647 : Int32)) % (((own_maxs ((p1 &&& (2147483647 : Int32)) % (17 : Int32))) - (own_mins ((p1 &&& (2147483647 : Int32)) % (17 : Int32)))) + (5 : Int32)))).toInt16.toInt32)), .val (.int ((((own_mins ((p1 &&& (2147483647 : Int32)) % (17 : Int32))) - (2 : Int32)) + ((p2 &&& (2147483647 : Int32)) % (((own_maxs ((p1 &&& (2147483647 : Int32)) % (17 : Int32))) - (own_mins ((p1 &&& (2147483647 : Int32)) % (17 : Int32)))) + (5 : Int32)))).toInt16.toInt32)), .val (.int (1 : Int32))] [(.int (1 : Int32))]))
        refine own_st (fun _ kQ => XS.goto Xp441.here hx rfl (pc0 := 389) (pc' := 393) rfl (hb hby at_389) (by decide) (by decide) kQ) ?_
        show own_Go p e below s _ _ _ (T435.setTop (mkF m 393 #[.val (.int p1), .val (.int p2), .val (.int p3), .val (.ref b5), .val (.ref b166), .val (.ref b278), .val (.int ((p1 &&& (2147483647 : Int32)) % (17 : Int32))), .val (.int (own_mins ((p1 &&& (2147483647 : Int32)) % (17 : Int32)))), .val (.int (own_maxs ((p1 &&& (2147483647 : Int32)) % (17 : Int32)))), .val (.int ((((own_mins ((p1 &&& (2147483647 : Int32)) % (17 : Int32))) - (2 : Int32)) + ((p2 &&& (2147483647 : Int32)) % (((own_maxs ((p1 &&& (2147483647 : Int32)) % (17 : Int32))) - (own_mins ((p1 &&& (2147483647 : Int32)) % (17 : Int32)))) + (5 : Int32)))).toInt16.toInt32)), .val (.int ((((own_mins ((p1 &&& (2147483647 : Int32)) % (17 : Int32))) - (2 : Int32)) + ((p2 &&& (2147483647 : Int32)) % (((own_maxs ((p1 &&& (2147483647 : Int32)) % (17 : Int32))) - (own_mins ((p1 &&& (2147483647 : Int32)) % (17 : Int32)))) + (5 : Int32)))).toInt16.toInt32)), .val (.int (1 : Int32))] [(.int (1 : Int32))]))
        refine own_retN Xp441 hx hlk Bd.returns (t := .boolean) (z' := (1 : Int32)) (by simp) (by decide) (hb hby at_393) (by decide) (by decide) ?_
        rw [eh435]
        exact ⟨Np441, rfl⟩
  · refine own_st (fun _ kQ => XS.ifNo X402.here hx rfl (hb hby at_319) rfl (XT.i0_eq_f hc412) kQ) ?_
    show own_Go p e below s _ _ _ (T402.setTop (mkF m 322 #[.val (.int p1), .val (.int p2), .val (.int p3), .val (.ref b5), .val (.ref b166), .val (.ref b278), .val (.int ((p1 &&& (2147483647 : Int32)) % (17 : Int32))), .val (.int (own_mins ((p1 &&& (2147483647 : Int32)) % (17 : Int32)))), .val (.int (own_maxs ((p1 &&& (2147483647 : Int32)) % (17 : Int32)))), .unset, .unset, .unset] []))
    refine own_st (fun _ kQ => XS.iloadN X402.here hx rfl (hb hby at_322) rfl kQ) ?_
    show own_Go p e below s _ _ _ (T402.setTop (mkF m 323 #[.val (.int p1), .val (.int p2), .val (.int p3), .val (.ref b5), .val (.ref b166), .val (.ref b278), .val (.int ((p1 &&& (2147483647 : Int32)) % (17 : Int32))), .val (.int (own_mins ((p1 &&& (2147483647 : Int32)) % (17 : Int32)))), .val (.int (own_maxs ((p1 &&& (2147483647 : Int32)) % (17 : Int32)))), .unset, .unset, .unset] [(.int p2)]))
    refine own_st (fun _ kQ => XT.i2s X402.here hx rfl (hb hby at_323) rfl kQ) ?_
    show own_Go p e below s _ _ _ (T402.setTop (mkF m 324 #[.val (.int p1), .val (.int p2), .val (.int p3), .val (.ref b5), .val (.ref b166), .val (.ref b278), .val (.int ((p1 &&& (2147483647 : Int32)) % (17 : Int32))), .val (.int (own_mins ((p1 &&& (2147483647 : Int32)) % (17 : Int32)))), .val (.int (own_maxs ((p1 &&& (2147483647 : Int32)) % (17 : Int32)))), .unset, .unset, .unset] [(.int (p2.toInt16.toInt32))]))
    refine own_st (fun _ kQ => XS.istore X402.here hx rfl (hb hby at_324) rfl (l' := #[.val (.int p1), .val (.int p2), .val (.int p3), .val (.ref b5), .val (.ref b166), .val (.ref b278), .val (.int ((p1 &&& (2147483647 : Int32)) % (17 : Int32))), .val (.int (own_mins ((p1 &&& (2147483647 : Int32)) % (17 : Int32)))), .val (.int (own_maxs ((p1 &&& (2147483647 : Int32)) % (17 : Int32)))), .val (.int (p2.toInt16.toInt32)), .unset, .unset]) rfl kQ) ?_
    show own_Go p e below s _ _ _ (T402.setTop (mkF m 326 #[.val (.int p1), .val (.int p2), .val (.int p3), .val (.ref b5), .val (.ref b166), .val (.ref b278), .val (.int ((p1 &&& (2147483647 : Int32)) % (17 : Int32))), .val (.int (own_mins ((p1 &&& (2147483647 : Int32)) % (17 : Int32)))), .val (.int (own_maxs ((p1 &&& (2147483647 : Int32)) % (17 : Int32)))), .val (.int (p2.toInt16.toInt32)), .unset, .unset] []))
    refine own_st (fun _ kQ => XS.goto X402.here hx rfl (pc0 := 326) (pc' := 349) rfl (hb hby at_326) (by decide) (by decide) kQ) ?_
    show own_Go p e below s _ _ _ (T402.setTop (mkF m 349 #[.val (.int p1), .val (.int p2), .val (.int p3), .val (.ref b5), .val (.ref b166), .val (.ref b278), .val (.int ((p1 &&& (2147483647 : Int32)) % (17 : Int32))), .val (.int (own_mins ((p1 &&& (2147483647 : Int32)) % (17 : Int32)))), .val (.int (own_maxs ((p1 &&& (2147483647 : Int32)) % (17 : Int32)))), .val (.int (p2.toInt16.toInt32)), .unset, .unset] []))
    refine own_st (fun _ kQ => XS.iload X402.here hx rfl (hb hby at_349) rfl kQ) ?_
    show own_Go p e below s _ _ _ (T402.setTop (mkF m 351 #[.val (.int p1), .val (.int p2), .val (.int p3), .val (.ref b5), .val (.ref b166), .val (.ref b278), .val (.int ((p1 &&& (2147483647 : Int32)) % (17 : Int32))), .val (.int (own_mins ((p1 &&& (2147483647 : Int32)) % (17 : Int32)))), .val (.int (own_maxs ((p1 &&& (2147483647 : Int32)) % (17 : Int32)))), .val (.int (p2.toInt16.toInt32)), .unset, .unset] [(.int (p2.toInt16.toInt32))]))
    refine own_st (fun _ kQ => XS.istore X402.here hx rfl (hb hby at_351) rfl (l' := #[.val (.int p1), .val (.int p2), .val (.int p3), .val (.ref b5), .val (.ref b166), .val (.ref b278), .val (.int ((p1 &&& (2147483647 : Int32)) % (17 : Int32))), .val (.int (own_mins ((p1 &&& (2147483647 : Int32)) % (17 : Int32)))), .val (.int (own_maxs ((p1 &&& (2147483647 : Int32)) % (17 : Int32)))), .val (.int (p2.toInt16.toInt32)), .val (.int (p2.toInt16.toInt32)), .unset]) rfl kQ) ?_
    show own_Go p e below s _ _ _ (T402.setTop (mkF m 353 #[.val (.int p1), .val (.int p2), .val (.int p3), .val (.ref b5), .val (.ref b166), .val (.ref b278), .val (.int ((p1 &&& (2147483647 : Int32)) % (17 : Int32))), .val (.int (own_mins ((p1 &&& (2147483647 : Int32)) % (17 : Int32)))), .val (.int (own_maxs ((p1 &&& (2147483647 : Int32)) % (17 : Int32)))), .val (.int (p2.toInt16.toInt32)), .val (.int (p2.toInt16.toInt32)), .unset] []))
    refine own_st (fun _ kQ => XS.iload X402.here hx rfl (hb hby at_353) rfl kQ) ?_
    show own_Go p e below s _ _ _ (T402.setTop (mkF m 355 #[.val (.int p1), .val (.int p2), .val (.int p3), .val (.ref b5), .val (.ref b166), .val (.ref b278), .val (.int ((p1 &&& (2147483647 : Int32)) % (17 : Int32))), .val (.int (own_mins ((p1 &&& (2147483647 : Int32)) % (17 : Int32)))), .val (.int (own_maxs ((p1 &&& (2147483647 : Int32)) % (17 : Int32)))), .val (.int (p2.toInt16.toInt32)), .val (.int (p2.toInt16.toInt32)), .unset] [(.int (p2.toInt16.toInt32))]))
    refine own_st (fun _ kQ => XS.iload X402.here hx rfl (hb hby at_355) rfl kQ) ?_
    show own_Go p e below s _ _ _ (T402.setTop (mkF m 357 #[.val (.int p1), .val (.int p2), .val (.int p3), .val (.ref b5), .val (.ref b166), .val (.ref b278), .val (.int ((p1 &&& (2147483647 : Int32)) % (17 : Int32))), .val (.int (own_mins ((p1 &&& (2147483647 : Int32)) % (17 : Int32)))), .val (.int (own_maxs ((p1 &&& (2147483647 : Int32)) % (17 : Int32)))), .val (.int (p2.toInt16.toInt32)), .val (.int (p2.toInt16.toInt32)), .unset] [(.int (own_mins ((p1 &&& (2147483647 : Int32)) % (17 : Int32)))), (.int (p2.toInt16.toInt32))]))
    by_cases hc442 : (p2.toInt16.toInt32) < (own_mins ((p1 &&& (2147483647 : Int32)) % (17 : Int32)))
    · refine own_st (fun _ kQ => XS.icmpYes X402.here hx rfl (pc0 := 357) (pc' := 371) rfl (hb hby at_357) rfl (XT.ii_lt_t hc442) (by decide) (by decide) kQ) ?_
      show own_Go p e below s _ _ _ (T402.setTop (mkF m 371 #[.val (.int p1), .val (.int p2), .val (.int p3), .val (.ref b5), .val (.ref b166), .val (.ref b278), .val (.int ((p1 &&& (2147483647 : Int32)) % (17 : Int32))), .val (.int (own_mins ((p1 &&& (2147483647 : Int32)) % (17 : Int32)))), .val (.int (own_maxs ((p1 &&& (2147483647 : Int32)) % (17 : Int32)))), .val (.int (p2.toInt16.toInt32)), .val (.int (p2.toInt16.toInt32)), .unset] []))
      refine own_st (fun _ kQ => XT.iconstV X402.here hx rfl (0 : Int32) (hb hby at_371) (by decide) kQ) ?_
      show own_Go p e below s _ _ _ (T402.setTop (mkF m 372 #[.val (.int p1), .val (.int p2), .val (.int p3), .val (.ref b5), .val (.ref b166), .val (.ref b278), .val (.int ((p1 &&& (2147483647 : Int32)) % (17 : Int32))), .val (.int (own_mins ((p1 &&& (2147483647 : Int32)) % (17 : Int32)))), .val (.int (own_maxs ((p1 &&& (2147483647 : Int32)) % (17 : Int32)))), .val (.int (p2.toInt16.toInt32)), .val (.int (p2.toInt16.toInt32)), .unset] [(.int (0 : Int32))]))
      refine own_st (fun _ kQ => XS.istore X402.here hx rfl (hb hby at_372) rfl (l' := #[.val (.int p1), .val (.int p2), .val (.int p3), .val (.ref b5), .val (.ref b166), .val (.ref b278), .val (.int ((p1 &&& (2147483647 : Int32)) % (17 : Int32))), .val (.int (own_mins ((p1 &&& (2147483647 : Int32)) % (17 : Int32)))), .val (.int (own_maxs ((p1 &&& (2147483647 : Int32)) % (17 : Int32)))), .val (.int (p2.toInt16.toInt32)), .val (.int (p2.toInt16.toInt32)), .val (.int (0 : Int32))]) rfl kQ) ?_
      show own_Go p e below s _ _ _ (T402.setTop (mkF m 374 #[.val (.int p1), .val (.int p2), .val (.int p3), .val (.ref b5), .val (.ref b166), .val (.ref b278), .val (.int ((p1 &&& (2147483647 : Int32)) % (17 : Int32))), .val (.int (own_mins ((p1 &&& (2147483647 : Int32)) % (17 : Int32)))), .val (.int (own_maxs ((p1 &&& (2147483647 : Int32)) % (17 : Int32)))), .val (.int (p2.toInt16.toInt32)), .val (.int (p2.toInt16.toInt32)), .val (.int (0 : Int32))] []))
      refine own_st (fun _ kQ => XS.aloadN X402.here hx rfl (hb hby at_374) rfl rfl kQ) ?_
      show own_Go p e below s _ _ _ (T402.setTop (mkF m 375 #[.val (.int p1), .val (.int p2), .val (.int p3), .val (.ref b5), .val (.ref b166), .val (.ref b278), .val (.int ((p1 &&& (2147483647 : Int32)) % (17 : Int32))), .val (.int (own_mins ((p1 &&& (2147483647 : Int32)) % (17 : Int32)))), .val (.int (own_maxs ((p1 &&& (2147483647 : Int32)) % (17 : Int32)))), .val (.int (p2.toInt16.toInt32)), .val (.int (p2.toInt16.toInt32)), .val (.int (0 : Int32))] [(.ref b5)]))
      refine own_st (fun _ kQ => XS.iload X402.here hx rfl (hb hby at_375) rfl kQ) ?_
      show own_Go p e below s _ _ _ (T402.setTop (mkF m 377 #[.val (.int p1), .val (.int p2), .val (.int p3), .val (.ref b5), .val (.ref b166), .val (.ref b278), .val (.int ((p1 &&& (2147483647 : Int32)) % (17 : Int32))), .val (.int (own_mins ((p1 &&& (2147483647 : Int32)) % (17 : Int32)))), .val (.int (own_maxs ((p1 &&& (2147483647 : Int32)) % (17 : Int32)))), .val (.int (p2.toInt16.toInt32)), .val (.int (p2.toInt16.toInt32)), .val (.int (0 : Int32))] [(.int ((p1 &&& (2147483647 : Int32)) % (17 : Int32))), (.ref b5)]))
      have F443 : Arv Z h402 b5 k5 (.object "com/example/epoch/epoch/protocol/ApiKey") (17 : Int32) [(.ref a_PRODUCE), (.ref a_FETCH), (.ref a_LIST_OFFSETS), (.ref a_METADATA), (.ref a_OFFSET_COMMIT), (.ref a_OFFSET_FETCH), (.ref a_FIND_COORDINATOR), (.ref a_JOIN_GROUP), (.ref a_HEARTBEAT), (.ref a_LEAVE_GROUP), (.ref a_SYNC_GROUP), (.ref a_API_VERSIONS), (.ref a_INIT_PRODUCER_ID), (.ref a_ADD_PARTITIONS_TO_TXN), (.ref a_ADD_OFFSETS_TO_TXN), (.ref a_END_TXN), (.ref a_TXN_OFFSET_COMMIT)] .null := ((((((((((((((((((((((((((((((((((((F163.ext E166).other W172 ne169).other W178 ne169).other W184 ne169).other W191 ne169).other W197 ne169).other W203 ne169).other W209 ne169).other W216 ne169).other W222 ne169).other W228 ne169).other W234 ne169).other W241 ne169).other W247 ne169).other W253 ne169).other W259 ne169).other W266 ne169).other W272 ne169).ext E278).other W286 ne282).other W293 ne282).other W301 ne282).other W308 ne282).other W315 ne282).other W322 ne282).other W330 ne282).other W337 ne282).other W344 ne282).other W351 ne282).other W359 ne282).other W366 ne282).other W373 ne282).other W380 ne282).other W388 ne282).other W395 ne282).other W402 ne282)
      obtain ⟨cl444, Ar444, kc444, S444, Nn444, H444, G444⟩ := id F443
      obtain ⟨r0, hr0, Er0, Fn0, Fx0⟩ : ∃ r : Addr, ([(.ref a_PRODUCE), (.ref a_FETCH), (.ref a_LIST_OFFSETS), (.ref a_METADATA), (.ref a_OFFSET_COMMIT), (.ref a_OFFSET_FETCH), (.ref a_FIND_COORDINATOR), (.ref a_JOIN_GROUP), (.ref a_HEARTBEAT), (.ref a_LEAVE_GROUP), (.ref a_SYNC_GROUP), (.ref a_API_VERSIONS), (.ref a_INIT_PRODUCER_ID), (.ref a_ADD_PARTITIONS_TO_TXN), (.ref a_ADD_OFFSETS_TO_TXN), (.ref a_END_TXN), (.ref a_TXN_OFFSET_COMMIT)] : List Value).getD (((p1 &&& (2147483647 : Int32)) % (17 : Int32))).toNatClampNeg .null = .ref r ∧ Exa Z Z.heap r "com/example/epoch/epoch/protocol/ApiKey" ∧ Fld Z Z.heap r "com/example/epoch/epoch/protocol/ApiKey" "minVersion" "S" (.int (own_mins ((p1 &&& (2147483647 : Int32)) % (17 : Int32)))) ∧ Fld Z Z.heap r "com/example/epoch/epoch/protocol/ApiKey" "maxVersion" "S" (.int (own_maxs ((p1 &&& (2147483647 : Int32)) % (17 : Int32)))) := by
        rcases own_lits17 p1 with h | h | h | h | h | h | h | h | h | h | h | h | h | h | h | h | h <;> rw [h]
        · exact ⟨a_PRODUCE, rfl, Ex_a_PRODUCE, F_PRODUCE_minVersion, F_PRODUCE_maxVersion⟩
        · exact ⟨a_FETCH, rfl, Ex_a_FETCH, F_FETCH_minVersion, F_FETCH_maxVersion⟩
        · exact ⟨a_LIST_OFFSETS, rfl, Ex_a_LIST_OFFSETS, F_LIST_OFFSETS_minVersion, F_LIST_OFFSETS_maxVersion⟩
        · exact ⟨a_METADATA, rfl, Ex_a_METADATA, F_METADATA_minVersion, F_METADATA_maxVersion⟩
        · exact ⟨a_OFFSET_COMMIT, rfl, Ex_a_OFFSET_COMMIT, F_OFFSET_COMMIT_minVersion, F_OFFSET_COMMIT_maxVersion⟩
        · exact ⟨a_OFFSET_FETCH, rfl, Ex_a_OFFSET_FETCH, F_OFFSET_FETCH_minVersion, F_OFFSET_FETCH_maxVersion⟩
        · exact ⟨a_FIND_COORDINATOR, rfl, Ex_a_FIND_COORDINATOR, F_FIND_COORDINATOR_minVersion, F_FIND_COORDINATOR_maxVersion⟩
        · exact ⟨a_JOIN_GROUP, rfl, Ex_a_JOIN_GROUP, F_JOIN_GROUP_minVersion, F_JOIN_GROUP_maxVersion⟩
        · exact ⟨a_HEARTBEAT, rfl, Ex_a_HEARTBEAT, F_HEARTBEAT_minVersion, F_HEARTBEAT_maxVersion⟩
        · exact ⟨a_LEAVE_GROUP, rfl, Ex_a_LEAVE_GROUP, F_LEAVE_GROUP_minVersion, F_LEAVE_GROUP_maxVersion⟩
        · exact ⟨a_SYNC_GROUP, rfl, Ex_a_SYNC_GROUP, F_SYNC_GROUP_minVersion, F_SYNC_GROUP_maxVersion⟩
        · exact ⟨a_API_VERSIONS, rfl, Ex_a_API_VERSIONS, F_API_VERSIONS_minVersion, F_API_VERSIONS_maxVersion⟩
        · exact ⟨a_INIT_PRODUCER_ID, rfl, Ex_a_INIT_PRODUCER_ID, F_INIT_PRODUCER_ID_minVersion, F_INIT_PRODUCER_ID_maxVersion⟩
        · exact ⟨a_ADD_PARTITIONS_TO_TXN, rfl, Ex_a_ADD_PARTITIONS_TO_TXN, F_ADD_PARTITIONS_TO_TXN_minVersion, F_ADD_PARTITIONS_TO_TXN_maxVersion⟩
        · exact ⟨a_ADD_OFFSETS_TO_TXN, rfl, Ex_a_ADD_OFFSETS_TO_TXN, F_ADD_OFFSETS_TO_TXN_minVersion, F_ADD_OFFSETS_TO_TXN_maxVersion⟩
        · exact ⟨a_END_TXN, rfl, Ex_a_END_TXN, F_END_TXN_minVersion, F_END_TXN_maxVersion⟩
        · exact ⟨a_TXN_OFFSET_COMMIT, rfl, Ex_a_TXN_OFFSET_COMMIT, F_TXN_OFFSET_COMMIT_minVersion, F_TXN_OFFSET_COMMIT_maxVersion⟩
      have hin444 : ¬ (((p1 &&& (2147483647 : Int32)) % (17 : Int32)) < 0 ∨ cl444.slots.size ≤ (((p1 &&& (2147483647 : Int32)) % (17 : Int32)) : Int32).toNatClampNeg) := inb_of S444 (by rcases own_lits17 p1 with h | h | h | h | h | h | h | h | h | h | h | h | h | h | h | h | h <;> rw [h] <;> decide)
      have hat444 : cl444.slots[(((p1 &&& (2147483647 : Int32)) % (17 : Int32)) : Int32).toNatClampNeg]? = some (.ref r0) := H444.at hin444 hr0
      refine own_st (fun _ kQ => X402.aaload hx (j := ((p1 &&& (2147483647 : Int32)) % (17 : Int32))) (v := (.ref r0)) (own_hp e402 Ar444.1) (State.isArrayOf_alike hZ.alike Ar444.2.1) rfl Ar444.2.2 hin444 hat444 (g := (mkF m 377 #[.val (.int p1), .val (.int p2), .val (.int p3), .val (.ref b5), .val (.ref b166), .val (.ref b278), .val (.int ((p1 &&& (2147483647 : Int32)) % (17 : Int32))), .val (.int (own_mins ((p1 &&& (2147483647 : Int32)) % (17 : Int32)))), .val (.int (own_maxs ((p1 &&& (2147483647 : Int32)) % (17 : Int32)))), .val (.int (p2.toInt16.toInt32)), .val (.int (p2.toInt16.toInt32)), .val (.int (0 : Int32))] [(.int ((p1 &&& (2147483647 : Int32)) % (17 : Int32))), (.ref b5)])) rfl rfl (hb hby at_377) _ kQ) ?_
      show own_Go p e below s _ _ _ (T402.setTop (mkF m 378 #[.val (.int p1), .val (.int p2), .val (.int p3), .val (.ref b5), .val (.ref b166), .val (.ref b278), .val (.int ((p1 &&& (2147483647 : Int32)) % (17 : Int32))), .val (.int (own_mins ((p1 &&& (2147483647 : Int32)) % (17 : Int32)))), .val (.int (own_maxs ((p1 &&& (2147483647 : Int32)) % (17 : Int32)))), .val (.int (p2.toInt16.toInt32)), .val (.int (p2.toInt16.toInt32)), .val (.int (0 : Int32))] [(.ref r0)]))
      refine own_st (fun _ kQ => XS.iload X402.here hx rfl (hb hby at_378) rfl kQ) ?_
      show own_Go p e below s _ _ _ (T402.setTop (mkF m 380 #[.val (.int p1), .val (.int p2), .val (.int p3), .val (.ref b5), .val (.ref b166), .val (.ref b278), .val (.int ((p1 &&& (2147483647 : Int32)) % (17 : Int32))), .val (.int (own_mins ((p1 &&& (2147483647 : Int32)) % (17 : Int32)))), .val (.int (own_maxs ((p1 &&& (2147483647 : Int32)) % (17 : Int32)))), .val (.int (p2.toInt16.toInt32)), .val (.int (p2.toInt16.toInt32)), .val (.int (0 : Int32))] [(.int (p2.toInt16.toInt32)), (.ref r0)]))
      have O446 : Old Z n0 h402 := (((((((((((((((((((((((((((((((((((((O157.wr W160 g7).ext E166).wr W172 g170).wr W178 g170).wr W184 g170).wr W191 g170).wr W197 g170).wr W203 g170).wr W209 g170).wr W216 g170).wr W222 g170).wr W228 g170).wr W234 g170).wr W241 g170).wr W247 g170).wr W253 g170).wr W259 g170).wr W266 g170).wr W272 g170).ext E278).wr W286 g284).wr W293 g284).wr W301 g284).wr W308 g284).wr W315 g284).wr W322 g284).wr W330 g284).wr W337 g284).wr W344 g284).wr W351 g284).wr W359 g284).wr W366 g284).wr W373 g284).wr W380 g284).wr W388 g284).wr W395 g284).wr W402 g284)
      have F447 : Exa Z h402 r0 "com/example/epoch/epoch/protocol/ApiKey" := Er0.ext O446.2
      have F448 : Fld Z h402 r0 "com/example/epoch/epoch/protocol/ApiKey" "minVersion" "S" (.int (own_mins ((p1 &&& (2147483647 : Int32)) % (17 : Int32)))) := Fn0.ext O446.2
      have F449 : Fld Z h402 r0 "com/example/epoch/epoch/protocol/ApiKey" "maxVersion" "S" (.int (own_maxs ((p1 &&& (2147483647 : Int32)) % (17 : Int32)))) := Fx0.ext O446.2
      obtain ⟨cq445, kq445, q445a, q445b, q445c⟩ := isOf hZ e402 F447
      obtain ⟨_, _, ⟨T445, L445, k445, n445⟩, -, X445, ⟨Lc445, hQ445, l445, y445, z445⟩, st445⟩ := X402.virtualBack hx (y := (⟨"com/example/epoch/epoch/protocol/ApiKey", "supports", "(S)Z"⟩ : MethodName)) (z := (⟨"com/example/epoch/epoch/protocol/ApiKey", "supports", "(S)Z"⟩ : MethodName)) hown (mvT hZ (hw _ (List.mem_of_getElem? (i := 40) rfl))) (mvT hZ (hw _ (List.mem_of_getElem? (i := 41) rfl))) (notFace_of_selects (args := #[]) (mvT hZ (hw _ (List.mem_of_getElem? (i := 43) rfl)))) (mvT hZ (hw _ (List.mem_of_getElem? (i := 43) rfl))) (mvT hZ (hw _ (List.mem_of_getElem? (i := 42) rfl))) (by decide) (backOf (W := 0) (own_rm_supports l Z a0 hw [] r0 (p2.toInt16.toInt32) (own_mins ((p1 &&& (2147483647 : Int32)) % (17 : Int32))) (own_maxs ((p1 &&& (2147483647 : Int32)) % (17 : Int32))) h402 n0 Zs408 F448 F449) hZ (hw _ (List.mem_of_getElem? (i := 44) rfl)) (hw _ (List.mem_of_getElem? (i := 3) rfl)) (by decide) (by decide)) q445a q445c (g := (mkF m 380 #[.val (.int p1), .val (.int p2), .val (.int p3), .val (.ref b5), .val (.ref b166), .val (.ref b278), .val (.int ((p1 &&& (2147483647 : Int32)) % (17 : Int32))), .val (.int (own_mins ((p1 &&& (2147483647 : Int32)) % (17 : Int32)))), .val (.int (own_maxs ((p1 &&& (2147483647 : Int32)) % (17 : Int32)))), .val (.int (p2.toInt16.toInt32)), .val (.int (p2.toInt16.toInt32)), .val (.int (0 : Int32))] [(.int (p2.toInt16.toInt32)), (.ref r0)])) rfl (by rw [hml]; rfl) (Steps.refl _) (argsL := [(.int (p2.toInt16.toInt32))]) (rest := []) (lenOf own_pd0 rfl) rfl (by show 2 * 0 + _ ≤ _; exact Nat.le_of_eq rfl) (hb hby at_380) (fun _ _ => ⟨rfl, e402, (by decide : 3 + 0 ≤ _), (by decide : 51 + 0 ≤ _)⟩)
      dsimp only [Pt.U, Pt.locs, Pt.cells, Pt.slots] at X445 l445 y445 z445 st445 hQ445
      subst l445 y445 z445
      obtain ⟨N445q, rfl, eh445⟩ := hQ445
      have N450 := Fr.app N403 N445q
      refine own_tr st445 ?_
      obtain ⟨Lp451, Xp451, Np451⟩ : ∃ L, Stand p l e room_1 s m #[(.int p1), (.int p2), (.int p3)] below meth c T445 L 3 51 ∧ Fr n0 L := ⟨_, X445, N450⟩
      show own_Go p e below s _ _ _ (T445.setTop (mkF m 383 #[.val (.int p1), .val (.int p2), .val (.int p3), .val (.ref b5), .val (.ref b166), .val (.ref b278), .val (.int ((p1 &&& (2147483647 : Int32)) % (17 : Int32))), .val (.int (own_mins ((p1 &&& (2147483647 : Int32)) % (17 : Int32)))), .val (.int (own_maxs ((p1 &&& (2147483647 : Int32)) % (17 : Int32)))), .val (.int (p2.toInt16.toInt32)), .val (.int (p2.toInt16.toInt32)), .val (.int (0 : Int32))] [(.int (if (p2.toInt16.toInt32) < (own_mins ((p1 &&& (2147483647 : Int32)) % (17 : Int32))) then (0 : Int32) else if (own_maxs ((p1 &&& (2147483647 : Int32)) % (17 : Int32))) < (p2.toInt16.toInt32) then 0 else 1))]))
      refine own_st (fun _ kQ => XS.iload Xp451.here hx rfl (hb hby at_383) rfl kQ) ?_
      show own_Go p e below s _ _ _ (T445.setTop (mkF m 385 #[.val (.int p1), .val (.int p2), .val (.int p3), .val (.ref b5), .val (.ref b166), .val (.ref b278), .val (.int ((p1 &&& (2147483647 : Int32)) % (17 : Int32))), .val (.int (own_mins ((p1 &&& (2147483647 : Int32)) % (17 : Int32)))), .val (.int (own_maxs ((p1 &&& (2147483647 : Int32)) % (17 : Int32)))), .val (.int (p2.toInt16.toInt32)), .val (.int (p2.toInt16.toInt32)), .val (.int (0 : Int32))] [(.int (0 : Int32)), (.int (if (p2.toInt16.toInt32) < (own_mins ((p1 &&& (2147483647 : Int32)) % (17 : Int32))) then (0 : Int32) else if (own_maxs ((p1 &&& (2147483647 : Int32)) % (17 : Int32))) < (p2.toInt16.toInt32) then 0 else 1))]))
      refine own_st (fun _ kQ => XS.icmpNo Xp451.here hx rfl (hb hby at_385) rfl (XT.ii_ne_f (by rw [if_pos hc442])) kQ) ?_
      show own_Go p e below s _ _ _ (T445.setTop (mkF m 388 #[.val (.int p1), .val (.int p2), .val (.int p3), .val (.ref b5), .val (.ref b166), .val (.ref b278), .val (.int ((p1 &&& (2147483647 : Int32)) % (17 : Int32))), .val (.int (own_mins ((p1 &&& (2147483647 : Int32)) % (17 : Int32)))), .val (.int (own_maxs ((p1 &&& (2147483647 : Int32)) % (17 : Int32)))), .val (.int (p2.toInt16.toInt32)), .val (.int (p2.toInt16.toInt32)), .val (.int (0 : Int32))] []))
      refine own_st (fun _ kQ => XT.iconstV Xp451.here hx rfl (1 : Int32) (hb hby at_388) (by decide) kQ) ?_
      show own_Go p e below s _ _ _ (T445.setTop (mkF m 389 #[.val (.int p1), .val (.int p2), .val (.int p3), .val (.ref b5), .val (.ref b166), .val (.ref b278), .val (.int ((p1 &&& (2147483647 : Int32)) % (17 : Int32))), .val (.int (own_mins ((p1 &&& (2147483647 : Int32)) % (17 : Int32)))), .val (.int (own_maxs ((p1 &&& (2147483647 : Int32)) % (17 : Int32)))), .val (.int (p2.toInt16.toInt32)), .val (.int (p2.toInt16.toInt32)), .val (.int (0 : Int32))] [(.int (1 : Int32))]))
      refine own_st (fun _ kQ => XS.goto Xp451.here hx rfl (pc0 := 389) (pc' := 393) rfl (hb hby at_389) (by decide) (by decide) kQ) ?_
      show own_Go p e below s _ _ _ (T445.setTop (mkF m 393 #[.val (.int p1), .val (.int p2), .val (.int p3), .val (.ref b5), .val (.ref b166), .val (.ref b278), .val (.int ((p1 &&& (2147483647 : Int32)) % (17 : Int32))), .val (.int (own_mins ((p1 &&& (2147483647 : Int32)) % (17 : Int32)))), .val (.int (own_maxs ((p1 &&& (2147483647 : Int32)) % (17 : Int32)))), .val (.int (p2.toInt16.toInt32)), .val (.int (p2.toInt16.toInt32)), .val (.int (0 : Int32))] [(.int (1 : Int32))]))
      refine own_retN Xp451 hx hlk Bd.returns (t := .boolean) (z' := (1 : Int32)) (by simp) (by decide) (hb hby at_393) (by decide) (by decide) ?_
      rw [eh445]
      exact ⟨Np451, rfl⟩
    · refine own_st (fun _ kQ => XS.icmpNo X402.here hx rfl (hb hby at_357) rfl (XT.ii_lt_f hc442) kQ) ?_
      show own_Go p e below s _ _ _ (T402.setTop (mkF m 360 #[.val (.int p1), .val (.int p2), .val (.int p3), .val (.ref b5), .val (.ref b166), .val (.ref b278), .val (.int ((p1 &&& (2147483647 : Int32)) % (17 : Int32))), .val (.int (own_mins ((p1 &&& (2147483647 : Int32)) % (17 : Int32)))), .val (.int (own_maxs ((p1 &&& (2147483647 : Int32)) % (17 : Int32)))), .val (.int (p2.toInt16.toInt32)), .val (.int (p2.toInt16.toInt32)), .unset] []))
      refine own_st (fun _ kQ => XS.iload X402.here hx rfl (hb hby at_360) rfl kQ) ?_
      show own_Go p e below s _ _ _ (T402.setTop (mkF m 362 #[.val (.int p1), .val (.int p2), .val (.int p3), .val (.ref b5), .val (.ref b166), .val (.ref b278), .val (.int ((p1 &&& (2147483647 : Int32)) % (17 : Int32))), .val (.int (own_mins ((p1 &&& (2147483647 : Int32)) % (17 : Int32)))), .val (.int (own_maxs ((p1 &&& (2147483647 : Int32)) % (17 : Int32)))), .val (.int (p2.toInt16.toInt32)), .val (.int (p2.toInt16.toInt32)), .unset] [(.int (p2.toInt16.toInt32))]))
      refine own_st (fun _ kQ => XS.iload X402.here hx rfl (hb hby at_362) rfl kQ) ?_
      show own_Go p e below s _ _ _ (T402.setTop (mkF m 364 #[.val (.int p1), .val (.int p2), .val (.int p3), .val (.ref b5), .val (.ref b166), .val (.ref b278), .val (.int ((p1 &&& (2147483647 : Int32)) % (17 : Int32))), .val (.int (own_mins ((p1 &&& (2147483647 : Int32)) % (17 : Int32)))), .val (.int (own_maxs ((p1 &&& (2147483647 : Int32)) % (17 : Int32)))), .val (.int (p2.toInt16.toInt32)), .val (.int (p2.toInt16.toInt32)), .unset] [(.int (own_maxs ((p1 &&& (2147483647 : Int32)) % (17 : Int32)))), (.int (p2.toInt16.toInt32))]))
      by_cases hc452 : (own_maxs ((p1 &&& (2147483647 : Int32)) % (17 : Int32))) < (p2.toInt16.toInt32)
      · refine own_st (fun _ kQ => XS.icmpYes X402.here hx rfl (pc0 := 364) (pc' := 371) rfl (hb hby at_364) rfl (XT.ii_gt_t hc452) (by decide) (by decide) kQ) ?_
        show own_Go p e below s _ _ _ (T402.setTop (mkF m 371 #[.val (.int p1), .val (.int p2), .val (.int p3), .val (.ref b5), .val (.ref b166), .val (.ref b278), .val (.int ((p1 &&& (2147483647 : Int32)) % (17 : Int32))), .val (.int (own_mins ((p1 &&& (2147483647 : Int32)) % (17 : Int32)))), .val (.int (own_maxs ((p1 &&& (2147483647 : Int32)) % (17 : Int32)))), .val (.int (p2.toInt16.toInt32)), .val (.int (p2.toInt16.toInt32)), .unset] []))
        refine own_st (fun _ kQ => XT.iconstV X402.here hx rfl (0 : Int32) (hb hby at_371) (by decide) kQ) ?_
        show own_Go p e below s _ _ _ (T402.setTop (mkF m 372 #[.val (.int p1), .val (.int p2), .val (.int p3), .val (.ref b5), .val (.ref b166), .val (.ref b278), .val (.int ((p1 &&& (2147483647 : Int32)) % (17 : Int32))), .val (.int (own_mins ((p1 &&& (2147483647 : Int32)) % (17 : Int32)))), .val (.int (own_maxs ((p1 &&& (2147483647 : Int32)) % (17 : Int32)))), .val (.int (p2.toInt16.toInt32)), .val (.int (p2.toInt16.toInt32)), .unset] [(.int (0 : Int32))]))
        refine own_st (fun _ kQ => XS.istore X402.here hx rfl (hb hby at_372) rfl (l' := #[.val (.int p1), .val (.int p2), .val (.int p3), .val (.ref b5), .val (.ref b166), .val (.ref b278), .val (.int ((p1 &&& (2147483647 : Int32)) % (17 : Int32))), .val (.int (own_mins ((p1 &&& (2147483647 : Int32)) % (17 : Int32)))), .val (.int (own_maxs ((p1 &&& (2147483647 : Int32)) % (17 : Int32)))), .val (.int (p2.toInt16.toInt32)), .val (.int (p2.toInt16.toInt32)), .val (.int (0 : Int32))]) rfl kQ) ?_
        show own_Go p e below s _ _ _ (T402.setTop (mkF m 374 #[.val (.int p1), .val (.int p2), .val (.int p3), .val (.ref b5), .val (.ref b166), .val (.ref b278), .val (.int ((p1 &&& (2147483647 : Int32)) % (17 : Int32))), .val (.int (own_mins ((p1 &&& (2147483647 : Int32)) % (17 : Int32)))), .val (.int (own_maxs ((p1 &&& (2147483647 : Int32)) % (17 : Int32)))), .val (.int (p2.toInt16.toInt32)), .val (.int (p2.toInt16.toInt32)), .val (.int (0 : Int32))] []))
        refine own_st (fun _ kQ => XS.aloadN X402.here hx rfl (hb hby at_374) rfl rfl kQ) ?_
        show own_Go p e below s _ _ _ (T402.setTop (mkF m 375 #[.val (.int p1), .val (.int p2), .val (.int p3), .val (.ref b5), .val (.ref b166), .val (.ref b278), .val (.int ((p1 &&& (2147483647 : Int32)) % (17 : Int32))), .val (.int (own_mins ((p1 &&& (2147483647 : Int32)) % (17 : Int32)))), .val (.int (own_maxs ((p1 &&& (2147483647 : Int32)) % (17 : Int32)))), .val (.int (p2.toInt16.toInt32)), .val (.int (p2.toInt16.toInt32)), .val (.int (0 : Int32))] [(.ref b5)]))
        refine own_st (fun _ kQ => XS.iload X402.here hx rfl (hb hby at_375) rfl kQ) ?_
        show own_Go p e below s _ _ _ (T402.setTop (mkF m 377 #[.val (.int p1), .val (.int p2), .val (.int p3), .val (.ref b5), .val (.ref b166), .val (.ref b278), .val (.int ((p1 &&& (2147483647 : Int32)) % (17 : Int32))), .val (.int (own_mins ((p1 &&& (2147483647 : Int32)) % (17 : Int32)))), .val (.int (own_maxs ((p1 &&& (2147483647 : Int32)) % (17 : Int32)))), .val (.int (p2.toInt16.toInt32)), .val (.int (p2.toInt16.toInt32)), .val (.int (0 : Int32))] [(.int ((p1 &&& (2147483647 : Int32)) % (17 : Int32))), (.ref b5)]))
        have F453 : Arv Z h402 b5 k5 (.object "com/example/epoch/epoch/protocol/ApiKey") (17 : Int32) [(.ref a_PRODUCE), (.ref a_FETCH), (.ref a_LIST_OFFSETS), (.ref a_METADATA), (.ref a_OFFSET_COMMIT), (.ref a_OFFSET_FETCH), (.ref a_FIND_COORDINATOR), (.ref a_JOIN_GROUP), (.ref a_HEARTBEAT), (.ref a_LEAVE_GROUP), (.ref a_SYNC_GROUP), (.ref a_API_VERSIONS), (.ref a_INIT_PRODUCER_ID), (.ref a_ADD_PARTITIONS_TO_TXN), (.ref a_ADD_OFFSETS_TO_TXN), (.ref a_END_TXN), (.ref a_TXN_OFFSET_COMMIT)] .null := ((((((((((((((((((((((((((((((((((((F163.ext E166).other W172 ne169).other W178 ne169).other W184 ne169).other W191 ne169).other W197 ne169).other W203 ne169).other W209 ne169).other W216 ne169).other W222 ne169).other W228 ne169).other W234 ne169).other W241 ne169).other W247 ne169).other W253 ne169).other W259 ne169).other W266 ne169).other W272 ne169).ext E278).other W286 ne282).other W293 ne282).other W301 ne282).other W308 ne282).other W315 ne282).other W322 ne282).other W330 ne282).other W337 ne282).other W344 ne282).other W351 ne282).other W359 ne282).other W366 ne282).other W373 ne282).other W380 ne282).other W388 ne282).other W395 ne282).other W402 ne282)
        obtain ⟨cl454, Ar454, kc454, S454, Nn454, H454, G454⟩ := id F453
        obtain ⟨r0, hr0, Er0, Fn0, Fx0⟩ : ∃ r : Addr, ([(.ref a_PRODUCE), (.ref a_FETCH), (.ref a_LIST_OFFSETS), (.ref a_METADATA), (.ref a_OFFSET_COMMIT), (.ref a_OFFSET_FETCH), (.ref a_FIND_COORDINATOR), (.ref a_JOIN_GROUP), (.ref a_HEARTBEAT), (.ref a_LEAVE_GROUP), (.ref a_SYNC_GROUP), (.ref a_API_VERSIONS), (.ref a_INIT_PRODUCER_ID), (.ref a_ADD_PARTITIONS_TO_TXN), (.ref a_ADD_OFFSETS_TO_TXN), (.ref a_END_TXN), (.ref a_TXN_OFFSET_COMMIT)] : List Value).getD (((p1 &&& (2147483647 : Int32)) % (17 : Int32))).toNatClampNeg .null = .ref r ∧ Exa Z Z.heap r "com/example/epoch/epoch/protocol/ApiKey" ∧ Fld Z Z.heap r "com/example/epoch/epoch/protocol/ApiKey" "minVersion" "S" (.int (own_mins ((p1 &&& (2147483647 : Int32)) % (17 : Int32)))) ∧ Fld Z Z.heap r "com/example/epoch/epoch/protocol/ApiKey" "maxVersion" "S" (.int (own_maxs ((p1 &&& (2147483647 : Int32)) % (17 : Int32)))) := by
          rcases own_lits17 p1 with h | h | h | h | h | h | h | h | h | h | h | h | h | h | h | h | h <;> rw [h]
          · exact ⟨a_PRODUCE, rfl, Ex_a_PRODUCE, F_PRODUCE_minVersion, F_PRODUCE_maxVersion⟩
          · exact ⟨a_FETCH, rfl, Ex_a_FETCH, F_FETCH_minVersion, F_FETCH_maxVersion⟩
          · exact ⟨a_LIST_OFFSETS, rfl, Ex_a_LIST_OFFSETS, F_LIST_OFFSETS_minVersion, F_LIST_OFFSETS_maxVersion⟩
          · exact ⟨a_METADATA, rfl, Ex_a_METADATA, F_METADATA_minVersion, F_METADATA_maxVersion⟩
          · exact ⟨a_OFFSET_COMMIT, rfl, Ex_a_OFFSET_COMMIT, F_OFFSET_COMMIT_minVersion, F_OFFSET_COMMIT_maxVersion⟩
          · exact ⟨a_OFFSET_FETCH, rfl, Ex_a_OFFSET_FETCH, F_OFFSET_FETCH_minVersion, F_OFFSET_FETCH_maxVersion⟩
          · exact ⟨a_FIND_COORDINATOR, rfl, Ex_a_FIND_COORDINATOR, F_FIND_COORDINATOR_minVersion, F_FIND_COORDINATOR_maxVersion⟩
          · exact ⟨a_JOIN_GROUP, rfl, Ex_a_JOIN_GROUP, F_JOIN_GROUP_minVersion, F_JOIN_GROUP_maxVersion⟩
          · exact ⟨a_HEARTBEAT, rfl, Ex_a_HEARTBEAT, F_HEARTBEAT_minVersion, F_HEARTBEAT_maxVersion⟩
          · exact ⟨a_LEAVE_GROUP, rfl, Ex_a_LEAVE_GROUP, F_LEAVE_GROUP_minVersion, F_LEAVE_GROUP_maxVersion⟩
          · exact ⟨a_SYNC_GROUP, rfl, Ex_a_SYNC_GROUP, F_SYNC_GROUP_minVersion, F_SYNC_GROUP_maxVersion⟩
          · exact ⟨a_API_VERSIONS, rfl, Ex_a_API_VERSIONS, F_API_VERSIONS_minVersion, F_API_VERSIONS_maxVersion⟩
          · exact ⟨a_INIT_PRODUCER_ID, rfl, Ex_a_INIT_PRODUCER_ID, F_INIT_PRODUCER_ID_minVersion, F_INIT_PRODUCER_ID_maxVersion⟩
          · exact ⟨a_ADD_PARTITIONS_TO_TXN, rfl, Ex_a_ADD_PARTITIONS_TO_TXN, F_ADD_PARTITIONS_TO_TXN_minVersion, F_ADD_PARTITIONS_TO_TXN_maxVersion⟩
          · exact ⟨a_ADD_OFFSETS_TO_TXN, rfl, Ex_a_ADD_OFFSETS_TO_TXN, F_ADD_OFFSETS_TO_TXN_minVersion, F_ADD_OFFSETS_TO_TXN_maxVersion⟩
          · exact ⟨a_END_TXN, rfl, Ex_a_END_TXN, F_END_TXN_minVersion, F_END_TXN_maxVersion⟩
          · exact ⟨a_TXN_OFFSET_COMMIT, rfl, Ex_a_TXN_OFFSET_COMMIT, F_TXN_OFFSET_COMMIT_minVersion, F_TXN_OFFSET_COMMIT_maxVersion⟩
        have hin454 : ¬ (((p1 &&& (2147483647 : Int32)) % (17 : Int32)) < 0 ∨ cl454.slots.size ≤ (((p1 &&& (2147483647 : Int32)) % (17 : Int32)) : Int32).toNatClampNeg) := inb_of S454 (by rcases own_lits17 p1 with h | h | h | h | h | h | h | h | h | h | h | h | h | h | h | h | h <;> rw [h] <;> decide)
        have hat454 : cl454.slots[(((p1 &&& (2147483647 : Int32)) % (17 : Int32)) : Int32).toNatClampNeg]? = some (.ref r0) := H454.at hin454 hr0
        refine own_st (fun _ kQ => X402.aaload hx (j := ((p1 &&& (2147483647 : Int32)) % (17 : Int32))) (v := (.ref r0)) (own_hp e402 Ar454.1) (State.isArrayOf_alike hZ.alike Ar454.2.1) rfl Ar454.2.2 hin454 hat454 (g := (mkF m 377 #[.val (.int p1), .val (.int p2), .val (.int p3), .val (.ref b5), .val (.ref b166), .val (.ref b278), .val (.int ((p1 &&& (2147483647 : Int32)) % (17 : Int32))), .val (.int (own_mins ((p1 &&& (2147483647 : Int32)) % (17 : Int32)))), .val (.int (own_maxs ((p1 &&& (2147483647 : Int32)) % (17 : Int32)))), .val (.int (p2.toInt16.toInt32)), .val (.int (p2.toInt16.toInt32)), .val (.int (0 : Int32))] [(.int ((p1 &&& (2147483647 : Int32)) % (17 : Int32))), (.ref b5)])) rfl rfl (hb hby at_377) _ kQ) ?_
        show own_Go p e below s _ _ _ (T402.setTop (mkF m 378 #[.val (.int p1), .val (.int p2), .val (.int p3), .val (.ref b5), .val (.ref b166), .val (.ref b278), .val (.int ((p1 &&& (2147483647 : Int32)) % (17 : Int32))), .val (.int (own_mins ((p1 &&& (2147483647 : Int32)) % (17 : Int32)))), .val (.int (own_maxs ((p1 &&& (2147483647 : Int32)) % (17 : Int32)))), .val (.int (p2.toInt16.toInt32)), .val (.int (p2.toInt16.toInt32)), .val (.int (0 : Int32))] [(.ref r0)]))
        refine own_st (fun _ kQ => XS.iload X402.here hx rfl (hb hby at_378) rfl kQ) ?_
        show own_Go p e below s _ _ _ (T402.setTop (mkF m 380 #[.val (.int p1), .val (.int p2), .val (.int p3), .val (.ref b5), .val (.ref b166), .val (.ref b278), .val (.int ((p1 &&& (2147483647 : Int32)) % (17 : Int32))), .val (.int (own_mins ((p1 &&& (2147483647 : Int32)) % (17 : Int32)))), .val (.int (own_maxs ((p1 &&& (2147483647 : Int32)) % (17 : Int32)))), .val (.int (p2.toInt16.toInt32)), .val (.int (p2.toInt16.toInt32)), .val (.int (0 : Int32))] [(.int (p2.toInt16.toInt32)), (.ref r0)]))
        have O456 : Old Z n0 h402 := (((((((((((((((((((((((((((((((((((((O157.wr W160 g7).ext E166).wr W172 g170).wr W178 g170).wr W184 g170).wr W191 g170).wr W197 g170).wr W203 g170).wr W209 g170).wr W216 g170).wr W222 g170).wr W228 g170).wr W234 g170).wr W241 g170).wr W247 g170).wr W253 g170).wr W259 g170).wr W266 g170).wr W272 g170).ext E278).wr W286 g284).wr W293 g284).wr W301 g284).wr W308 g284).wr W315 g284).wr W322 g284).wr W330 g284).wr W337 g284).wr W344 g284).wr W351 g284).wr W359 g284).wr W366 g284).wr W373 g284).wr W380 g284).wr W388 g284).wr W395 g284).wr W402 g284)
        have F457 : Exa Z h402 r0 "com/example/epoch/epoch/protocol/ApiKey" := Er0.ext O456.2
        have F458 : Fld Z h402 r0 "com/example/epoch/epoch/protocol/ApiKey" "minVersion" "S" (.int (own_mins ((p1 &&& (2147483647 : Int32)) % (17 : Int32)))) := Fn0.ext O456.2
        have F459 : Fld Z h402 r0 "com/example/epoch/epoch/protocol/ApiKey" "maxVersion" "S" (.int (own_maxs ((p1 &&& (2147483647 : Int32)) % (17 : Int32)))) := Fx0.ext O456.2
        obtain ⟨cq455, kq455, q455a, q455b, q455c⟩ := isOf hZ e402 F457
        obtain ⟨_, _, ⟨T455, L455, k455, n455⟩, -, X455, ⟨Lc455, hQ455, l455, y455, z455⟩, st455⟩ := X402.virtualBack hx (y := (⟨"com/example/epoch/epoch/protocol/ApiKey", "supports", "(S)Z"⟩ : MethodName)) (z := (⟨"com/example/epoch/epoch/protocol/ApiKey", "supports", "(S)Z"⟩ : MethodName)) hown (mvT hZ (hw _ (List.mem_of_getElem? (i := 40) rfl))) (mvT hZ (hw _ (List.mem_of_getElem? (i := 41) rfl))) (notFace_of_selects (args := #[]) (mvT hZ (hw _ (List.mem_of_getElem? (i := 43) rfl)))) (mvT hZ (hw _ (List.mem_of_getElem? (i := 43) rfl))) (mvT hZ (hw _ (List.mem_of_getElem? (i := 42) rfl))) (by decide) (backOf (W := 0) (own_rm_supports l Z a0 hw [] r0 (p2.toInt16.toInt32) (own_mins ((p1 &&& (2147483647 : Int32)) % (17 : Int32))) (own_maxs ((p1 &&& (2147483647 : Int32)) % (17 : Int32))) h402 n0 Zs408 F458 F459) hZ (hw _ (List.mem_of_getElem? (i := 44) rfl)) (hw _ (List.mem_of_getElem? (i := 3) rfl)) (by decide) (by decide)) q455a q455c (g := (mkF m 380 #[.val (.int p1), .val (.int p2), .val (.int p3), .val (.ref b5), .val (.ref b166), .val (.ref b278), .val (.int ((p1 &&& (2147483647 : Int32)) % (17 : Int32))), .val (.int (own_mins ((p1 &&& (2147483647 : Int32)) % (17 : Int32)))), .val (.int (own_maxs ((p1 &&& (2147483647 : Int32)) % (17 : Int32)))), .val (.int (p2.toInt16.toInt32)), .val (.int (p2.toInt16.toInt32)), .val (.int (0 : Int32))] [(.int (p2.toInt16.toInt32)), (.ref r0)])) rfl (by rw [hml]; rfl) (Steps.refl _) (argsL := [(.int (p2.toInt16.toInt32))]) (rest := []) (lenOf own_pd0 rfl) rfl (by show 2 * 0 + _ ≤ _; exact Nat.le_of_eq rfl) (hb hby at_380) (fun _ _ => ⟨rfl, e402, (by decide : 3 + 0 ≤ _), (by decide : 51 + 0 ≤ _)⟩)
        dsimp only [Pt.U, Pt.locs, Pt.cells, Pt.slots] at X455 l455 y455 z455 st455 hQ455
        subst l455 y455 z455
        obtain ⟨N455q, rfl, eh455⟩ := hQ455
        have N460 := Fr.app N403 N455q
        refine own_tr st455 ?_
        obtain ⟨Lp461, Xp461, Np461⟩ : ∃ L, Stand p l e room_1 s m #[(.int p1), (.int p2), (.int p3)] below meth c T455 L 3 51 ∧ Fr n0 L := ⟨_, X455, N460⟩
        show own_Go p e below s _ _ _ (T455.setTop (mkF m 383 #[.val (.int p1), .val (.int p2), .val (.int p3), .val (.ref b5), .val (.ref b166), .val (.ref b278), .val (.int ((p1 &&& (2147483647 : Int32)) % (17 : Int32))), .val (.int (own_mins ((p1 &&& (2147483647 : Int32)) % (17 : Int32)))), .val (.int (own_maxs ((p1 &&& (2147483647 : Int32)) % (17 : Int32)))), .val (.int (p2.toInt16.toInt32)), .val (.int (p2.toInt16.toInt32)), .val (.int (0 : Int32))] [(.int (if (p2.toInt16.toInt32) < (own_mins ((p1 &&& (2147483647 : Int32)) % (17 : Int32))) then (0 : Int32) else if (own_maxs ((p1 &&& (2147483647 : Int32)) % (17 : Int32))) < (p2.toInt16.toInt32) then 0 else 1))]))
        refine own_st (fun _ kQ => XS.iload Xp461.here hx rfl (hb hby at_383) rfl kQ) ?_
        show own_Go p e below s _ _ _ (T455.setTop (mkF m 385 #[.val (.int p1), .val (.int p2), .val (.int p3), .val (.ref b5), .val (.ref b166), .val (.ref b278), .val (.int ((p1 &&& (2147483647 : Int32)) % (17 : Int32))), .val (.int (own_mins ((p1 &&& (2147483647 : Int32)) % (17 : Int32)))), .val (.int (own_maxs ((p1 &&& (2147483647 : Int32)) % (17 : Int32)))), .val (.int (p2.toInt16.toInt32)), .val (.int (p2.toInt16.toInt32)), .val (.int (0 : Int32))] [(.int (0 : Int32)), (.int (if (p2.toInt16.toInt32) < (own_mins ((p1 &&& (2147483647 : Int32)) % (17 : Int32))) then (0 : Int32) else if (own_maxs ((p1 &&& (2147483647 : Int32)) % (17 : Int32))) < (p2.toInt16.toInt32) then 0 else 1))]))
        refine own_st (fun _ kQ => XS.icmpNo Xp461.here hx rfl (hb hby at_385) rfl (XT.ii_ne_f (by rw [if_neg hc442, if_pos hc452])) kQ) ?_
        show own_Go p e below s _ _ _ (T455.setTop (mkF m 388 #[.val (.int p1), .val (.int p2), .val (.int p3), .val (.ref b5), .val (.ref b166), .val (.ref b278), .val (.int ((p1 &&& (2147483647 : Int32)) % (17 : Int32))), .val (.int (own_mins ((p1 &&& (2147483647 : Int32)) % (17 : Int32)))), .val (.int (own_maxs ((p1 &&& (2147483647 : Int32)) % (17 : Int32)))), .val (.int (p2.toInt16.toInt32)), .val (.int (p2.toInt16.toInt32)), .val (.int (0 : Int32))] []))
        refine own_st (fun _ kQ => XT.iconstV Xp461.here hx rfl (1 : Int32) (hb hby at_388) (by decide) kQ) ?_
        show own_Go p e below s _ _ _ (T455.setTop (mkF m 389 #[.val (.int p1), .val (.int p2), .val (.int p3), .val (.ref b5), .val (.ref b166), .val (.ref b278), .val (.int ((p1 &&& (2147483647 : Int32)) % (17 : Int32))), .val (.int (own_mins ((p1 &&& (2147483647 : Int32)) % (17 : Int32)))), .val (.int (own_maxs ((p1 &&& (2147483647 : Int32)) % (17 : Int32)))), .val (.int (p2.toInt16.toInt32)), .val (.int (p2.toInt16.toInt32)), .val (.int (0 : Int32))] [(.int (1 : Int32))]))
        refine own_st (fun _ kQ => XS.goto Xp461.here hx rfl (pc0 := 389) (pc' := 393) rfl (hb hby at_389) (by decide) (by decide) kQ) ?_
        show own_Go p e below s _ _ _ (T455.setTop (mkF m 393 #[.val (.int p1), .val (.int p2), .val (.int p3), .val (.ref b5), .val (.ref b166), .val (.ref b278), .val (.int ((p1 &&& (2147483647 : Int32)) % (17 : Int32))), .val (.int (own_mins ((p1 &&& (2147483647 : Int32)) % (17 : Int32)))), .val (.int (own_maxs ((p1 &&& (2147483647 : Int32)) % (17 : Int32)))), .val (.int (p2.toInt16.toInt32)), .val (.int (p2.toInt16.toInt32)), .val (.int (0 : Int32))] [(.int (1 : Int32))]))
        refine own_retN Xp461 hx hlk Bd.returns (t := .boolean) (z' := (1 : Int32)) (by simp) (by decide) (hb hby at_393) (by decide) (by decide) ?_
        rw [eh455]
        exact ⟨Np461, rfl⟩
      · refine own_st (fun _ kQ => XS.icmpNo X402.here hx rfl (hb hby at_364) rfl (XT.ii_gt_f hc452) kQ) ?_
        show own_Go p e below s _ _ _ (T402.setTop (mkF m 367 #[.val (.int p1), .val (.int p2), .val (.int p3), .val (.ref b5), .val (.ref b166), .val (.ref b278), .val (.int ((p1 &&& (2147483647 : Int32)) % (17 : Int32))), .val (.int (own_mins ((p1 &&& (2147483647 : Int32)) % (17 : Int32)))), .val (.int (own_maxs ((p1 &&& (2147483647 : Int32)) % (17 : Int32)))), .val (.int (p2.toInt16.toInt32)), .val (.int (p2.toInt16.toInt32)), .unset] []))
        refine own_st (fun _ kQ => XT.iconstV X402.here hx rfl (1 : Int32) (hb hby at_367) (by decide) kQ) ?_
        show own_Go p e below s _ _ _ (T402.setTop (mkF m 368 #[.val (.int p1), .val (.int p2), .val (.int p3), .val (.ref b5), .val (.ref b166), .val (.ref b278), .val (.int ((p1 &&& (2147483647 : Int32)) % (17 : Int32))), .val (.int (own_mins ((p1 &&& (2147483647 : Int32)) % (17 : Int32)))), .val (.int (own_maxs ((p1 &&& (2147483647 : Int32)) % (17 : Int32)))), .val (.int (p2.toInt16.toInt32)), .val (.int (p2.toInt16.toInt32)), .unset] [(.int (1 : Int32))]))
        refine own_st (fun _ kQ => XS.goto X402.here hx rfl (pc0 := 368) (pc' := 372) rfl (hb hby at_368) (by decide) (by decide) kQ) ?_
        show own_Go p e below s _ _ _ (T402.setTop (mkF m 372 #[.val (.int p1), .val (.int p2), .val (.int p3), .val (.ref b5), .val (.ref b166), .val (.ref b278), .val (.int ((p1 &&& (2147483647 : Int32)) % (17 : Int32))), .val (.int (own_mins ((p1 &&& (2147483647 : Int32)) % (17 : Int32)))), .val (.int (own_maxs ((p1 &&& (2147483647 : Int32)) % (17 : Int32)))), .val (.int (p2.toInt16.toInt32)), .val (.int (p2.toInt16.toInt32)), .unset] [(.int (1 : Int32))]))
        refine own_st (fun _ kQ => XS.istore X402.here hx rfl (hb hby at_372) rfl (l' := #[.val (.int p1), .val (.int p2), .val (.int p3), .val (.ref b5), .val (.ref b166), .val (.ref b278), .val (.int ((p1 &&& (2147483647 : Int32)) % (17 : Int32))), .val (.int (own_mins ((p1 &&& (2147483647 : Int32)) % (17 : Int32)))), .val (.int (own_maxs ((p1 &&& (2147483647 : Int32)) % (17 : Int32)))), .val (.int (p2.toInt16.toInt32)), .val (.int (p2.toInt16.toInt32)), .val (.int (1 : Int32))]) rfl kQ) ?_
        show own_Go p e below s _ _ _ (T402.setTop (mkF m 374 #[.val (.int p1), .val (.int p2), .val (.int p3), .val (.ref b5), .val (.ref b166), .val (.ref b278), .val (.int ((p1 &&& (2147483647 : Int32)) % (17 : Int32))), .val (.int (own_mins ((p1 &&& (2147483647 : Int32)) % (17 : Int32)))), .val (.int (own_maxs ((p1 &&& (2147483647 : Int32)) % (17 : Int32)))), .val (.int (p2.toInt16.toInt32)), .val (.int (p2.toInt16.toInt32)), .val (.int (1 : Int32))] []))
        refine own_st (fun _ kQ => XS.aloadN X402.here hx rfl (hb hby at_374) rfl rfl kQ) ?_
        show own_Go p e below s _ _ _ (T402.setTop (mkF m 375 #[.val (.int p1), .val (.int p2), .val (.int p3), .val (.ref b5), .val (.ref b166), .val (.ref b278), .val (.int ((p1 &&& (2147483647 : Int32)) % (17 : Int32))), .val (.int (own_mins ((p1 &&& (2147483647 : Int32)) % (17 : Int32)))), .val (.int (own_maxs ((p1 &&& (2147483647 : Int32)) % (17 : Int32)))), .val (.int (p2.toInt16.toInt32)), .val (.int (p2.toInt16.toInt32)), .val (.int (1 : Int32))] [(.ref b5)]))
        refine own_st (fun _ kQ => XS.iload X402.here hx rfl (hb hby at_375) rfl kQ) ?_
        show own_Go p e below s _ _ _ (T402.setTop (mkF m 377 #[.val (.int p1), .val (.int p2), .val (.int p3), .val (.ref b5), .val (.ref b166), .val (.ref b278), .val (.int ((p1 &&& (2147483647 : Int32)) % (17 : Int32))), .val (.int (own_mins ((p1 &&& (2147483647 : Int32)) % (17 : Int32)))), .val (.int (own_maxs ((p1 &&& (2147483647 : Int32)) % (17 : Int32)))), .val (.int (p2.toInt16.toInt32)), .val (.int (p2.toInt16.toInt32)), .val (.int (1 : Int32))] [(.int ((p1 &&& (2147483647 : Int32)) % (17 : Int32))), (.ref b5)]))
        have F462 : Arv Z h402 b5 k5 (.object "com/example/epoch/epoch/protocol/ApiKey") (17 : Int32) [(.ref a_PRODUCE), (.ref a_FETCH), (.ref a_LIST_OFFSETS), (.ref a_METADATA), (.ref a_OFFSET_COMMIT), (.ref a_OFFSET_FETCH), (.ref a_FIND_COORDINATOR), (.ref a_JOIN_GROUP), (.ref a_HEARTBEAT), (.ref a_LEAVE_GROUP), (.ref a_SYNC_GROUP), (.ref a_API_VERSIONS), (.ref a_INIT_PRODUCER_ID), (.ref a_ADD_PARTITIONS_TO_TXN), (.ref a_ADD_OFFSETS_TO_TXN), (.ref a_END_TXN), (.ref a_TXN_OFFSET_COMMIT)] .null := ((((((((((((((((((((((((((((((((((((F163.ext E166).other W172 ne169).other W178 ne169).other W184 ne169).other W191 ne169).other W197 ne169).other W203 ne169).other W209 ne169).other W216 ne169).other W222 ne169).other W228 ne169).other W234 ne169).other W241 ne169).other W247 ne169).other W253 ne169).other W259 ne169).other W266 ne169).other W272 ne169).ext E278).other W286 ne282).other W293 ne282).other W301 ne282).other W308 ne282).other W315 ne282).other W322 ne282).other W330 ne282).other W337 ne282).other W344 ne282).other W351 ne282).other W359 ne282).other W366 ne282).other W373 ne282).other W380 ne282).other W388 ne282).other W395 ne282).other W402 ne282)
        obtain ⟨cl463, Ar463, kc463, S463, Nn463, H463, G463⟩ := id F462
        obtain ⟨r0, hr0, Er0, Fn0, Fx0⟩ : ∃ r : Addr, ([(.ref a_PRODUCE), (.ref a_FETCH), (.ref a_LIST_OFFSETS), (.ref a_METADATA), (.ref a_OFFSET_COMMIT), (.ref a_OFFSET_FETCH), (.ref a_FIND_COORDINATOR), (.ref a_JOIN_GROUP), (.ref a_HEARTBEAT), (.ref a_LEAVE_GROUP), (.ref a_SYNC_GROUP), (.ref a_API_VERSIONS), (.ref a_INIT_PRODUCER_ID), (.ref a_ADD_PARTITIONS_TO_TXN), (.ref a_ADD_OFFSETS_TO_TXN), (.ref a_END_TXN), (.ref a_TXN_OFFSET_COMMIT)] : List Value).getD (((p1 &&& (2147483647 : Int32)) % (17 : Int32))).toNatClampNeg .null = .ref r ∧ Exa Z Z.heap r "com/example/epoch/epoch/protocol/ApiKey" ∧ Fld Z Z.heap r "com/example/epoch/epoch/protocol/ApiKey" "minVersion" "S" (.int (own_mins ((p1 &&& (2147483647 : Int32)) % (17 : Int32)))) ∧ Fld Z Z.heap r "com/example/epoch/epoch/protocol/ApiKey" "maxVersion" "S" (.int (own_maxs ((p1 &&& (2147483647 : Int32)) % (17 : Int32)))) := by
          rcases own_lits17 p1 with h | h | h | h | h | h | h | h | h | h | h | h | h | h | h | h | h <;> rw [h]
          · exact ⟨a_PRODUCE, rfl, Ex_a_PRODUCE, F_PRODUCE_minVersion, F_PRODUCE_maxVersion⟩
          · exact ⟨a_FETCH, rfl, Ex_a_FETCH, F_FETCH_minVersion, F_FETCH_maxVersion⟩
          · exact ⟨a_LIST_OFFSETS, rfl, Ex_a_LIST_OFFSETS, F_LIST_OFFSETS_minVersion, F_LIST_OFFSETS_maxVersion⟩
          · exact ⟨a_METADATA, rfl, Ex_a_METADATA, F_METADATA_minVersion, F_METADATA_maxVersion⟩
          · exact ⟨a_OFFSET_COMMIT, rfl, Ex_a_OFFSET_COMMIT, F_OFFSET_COMMIT_minVersion, F_OFFSET_COMMIT_maxVersion⟩
          · exact ⟨a_OFFSET_FETCH, rfl, Ex_a_OFFSET_FETCH, F_OFFSET_FETCH_minVersion, F_OFFSET_FETCH_maxVersion⟩
          · exact ⟨a_FIND_COORDINATOR, rfl, Ex_a_FIND_COORDINATOR, F_FIND_COORDINATOR_minVersion, F_FIND_COORDINATOR_maxVersion⟩
          · exact ⟨a_JOIN_GROUP, rfl, Ex_a_JOIN_GROUP, F_JOIN_GROUP_minVersion, F_JOIN_GROUP_maxVersion⟩
          · exact ⟨a_HEARTBEAT, rfl, Ex_a_HEARTBEAT, F_HEARTBEAT_minVersion, F_HEARTBEAT_maxVersion⟩
          · exact ⟨a_LEAVE_GROUP, rfl, Ex_a_LEAVE_GROUP, F_LEAVE_GROUP_minVersion, F_LEAVE_GROUP_maxVersion⟩
          · exact ⟨a_SYNC_GROUP, rfl, Ex_a_SYNC_GROUP, F_SYNC_GROUP_minVersion, F_SYNC_GROUP_maxVersion⟩
          · exact ⟨a_API_VERSIONS, rfl, Ex_a_API_VERSIONS, F_API_VERSIONS_minVersion, F_API_VERSIONS_maxVersion⟩
          · exact ⟨a_INIT_PRODUCER_ID, rfl, Ex_a_INIT_PRODUCER_ID, F_INIT_PRODUCER_ID_minVersion, F_INIT_PRODUCER_ID_maxVersion⟩
          · exact ⟨a_ADD_PARTITIONS_TO_TXN, rfl, Ex_a_ADD_PARTITIONS_TO_TXN, F_ADD_PARTITIONS_TO_TXN_minVersion, F_ADD_PARTITIONS_TO_TXN_maxVersion⟩
          · exact ⟨a_ADD_OFFSETS_TO_TXN, rfl, Ex_a_ADD_OFFSETS_TO_TXN, F_ADD_OFFSETS_TO_TXN_minVersion, F_ADD_OFFSETS_TO_TXN_maxVersion⟩
          · exact ⟨a_END_TXN, rfl, Ex_a_END_TXN, F_END_TXN_minVersion, F_END_TXN_maxVersion⟩
          · exact ⟨a_TXN_OFFSET_COMMIT, rfl, Ex_a_TXN_OFFSET_COMMIT, F_TXN_OFFSET_COMMIT_minVersion, F_TXN_OFFSET_COMMIT_maxVersion⟩
        have hin463 : ¬ (((p1 &&& (2147483647 : Int32)) % (17 : Int32)) < 0 ∨ cl463.slots.size ≤ (((p1 &&& (2147483647 : Int32)) % (17 : Int32)) : Int32).toNatClampNeg) := inb_of S463 (by rcases own_lits17 p1 with h | h | h | h | h | h | h | h | h | h | h | h | h | h | h | h | h <;> rw [h] <;> decide)
        have hat463 : cl463.slots[(((p1 &&& (2147483647 : Int32)) % (17 : Int32)) : Int32).toNatClampNeg]? = some (.ref r0) := H463.at hin463 hr0
        refine own_st (fun _ kQ => X402.aaload hx (j := ((p1 &&& (2147483647 : Int32)) % (17 : Int32))) (v := (.ref r0)) (own_hp e402 Ar463.1) (State.isArrayOf_alike hZ.alike Ar463.2.1) rfl Ar463.2.2 hin463 hat463 (g := (mkF m 377 #[.val (.int p1), .val (.int p2), .val (.int p3), .val (.ref b5), .val (.ref b166), .val (.ref b278), .val (.int ((p1 &&& (2147483647 : Int32)) % (17 : Int32))), .val (.int (own_mins ((p1 &&& (2147483647 : Int32)) % (17 : Int32)))), .val (.int (own_maxs ((p1 &&& (2147483647 : Int32)) % (17 : Int32)))), .val (.int (p2.toInt16.toInt32)), .val (.int (p2.toInt16.toInt32)), .val (.int (1 : Int32))] [(.int ((p1 &&& (2147483647 : Int32)) % (17 : Int32))), (.ref b5)])) rfl rfl (hb hby at_377) _ kQ) ?_
        show own_Go p e below s _ _ _ (T402.setTop (mkF m 378 #[.val (.int p1), .val (.int p2), .val (.int p3), .val (.ref b5), .val (.ref b166), .val (.ref b278), .val (.int ((p1 &&& (2147483647 : Int32)) % (17 : Int32))), .val (.int (own_mins ((p1 &&& (2147483647 : Int32)) % (17 : Int32)))), .val (.int (own_maxs ((p1 &&& (2147483647 : Int32)) % (17 : Int32)))), .val (.int (p2.toInt16.toInt32)), .val (.int (p2.toInt16.toInt32)), .val (.int (1 : Int32))] [(.ref r0)]))
        refine own_st (fun _ kQ => XS.iload X402.here hx rfl (hb hby at_378) rfl kQ) ?_
        show own_Go p e below s _ _ _ (T402.setTop (mkF m 380 #[.val (.int p1), .val (.int p2), .val (.int p3), .val (.ref b5), .val (.ref b166), .val (.ref b278), .val (.int ((p1 &&& (2147483647 : Int32)) % (17 : Int32))), .val (.int (own_mins ((p1 &&& (2147483647 : Int32)) % (17 : Int32)))), .val (.int (own_maxs ((p1 &&& (2147483647 : Int32)) % (17 : Int32)))), .val (.int (p2.toInt16.toInt32)), .val (.int (p2.toInt16.toInt32)), .val (.int (1 : Int32))] [(.int (p2.toInt16.toInt32)), (.ref r0)]))
        have O465 : Old Z n0 h402 := (((((((((((((((((((((((((((((((((((((O157.wr W160 g7).ext E166).wr W172 g170).wr W178 g170).wr W184 g170).wr W191 g170).wr W197 g170).wr W203 g170).wr W209 g170).wr W216 g170).wr W222 g170).wr W228 g170).wr W234 g170).wr W241 g170).wr W247 g170).wr W253 g170).wr W259 g170).wr W266 g170).wr W272 g170).ext E278).wr W286 g284).wr W293 g284).wr W301 g284).wr W308 g284).wr W315 g284).wr W322 g284).wr W330 g284).wr W337 g284).wr W344 g284).wr W351 g284).wr W359 g284).wr W366 g284).wr W373 g284).wr W380 g284).wr W388 g284).wr W395 g284).wr W402 g284)
        have F466 : Exa Z h402 r0 "com/example/epoch/epoch/protocol/ApiKey" := Er0.ext O465.2
        have F467 : Fld Z h402 r0 "com/example/epoch/epoch/protocol/ApiKey" "minVersion" "S" (.int (own_mins ((p1 &&& (2147483647 : Int32)) % (17 : Int32)))) := Fn0.ext O465.2
        have F468 : Fld Z h402 r0 "com/example/epoch/epoch/protocol/ApiKey" "maxVersion" "S" (.int (own_maxs ((p1 &&& (2147483647 : Int32)) % (17 : Int32)))) := Fx0.ext O465.2
        obtain ⟨cq464, kq464, q464a, q464b, q464c⟩ := isOf hZ e402 F466
        obtain ⟨_, _, ⟨T464, L464, k464, n464⟩, -, X464, ⟨Lc464, hQ464, l464, y464, z464⟩, st464⟩ := X402.virtualBack hx (y := (⟨"com/example/epoch/epoch/protocol/ApiKey", "supports", "(S)Z"⟩ : MethodName)) (z := (⟨"com/example/epoch/epoch/protocol/ApiKey", "supports", "(S)Z"⟩ : MethodName)) hown (mvT hZ (hw _ (List.mem_of_getElem? (i := 40) rfl))) (mvT hZ (hw _ (List.mem_of_getElem? (i := 41) rfl))) (notFace_of_selects (args := #[]) (mvT hZ (hw _ (List.mem_of_getElem? (i := 43) rfl)))) (mvT hZ (hw _ (List.mem_of_getElem? (i := 43) rfl))) (mvT hZ (hw _ (List.mem_of_getElem? (i := 42) rfl))) (by decide) (backOf (W := 0) (own_rm_supports l Z a0 hw [] r0 (p2.toInt16.toInt32) (own_mins ((p1 &&& (2147483647 : Int32)) % (17 : Int32))) (own_maxs ((p1 &&& (2147483647 : Int32)) % (17 : Int32))) h402 n0 Zs408 F467 F468) hZ (hw _ (List.mem_of_getElem? (i := 44) rfl)) (hw _ (List.mem_of_getElem? (i := 3) rfl)) (by decide) (by decide)) q464a q464c (g := (mkF m 380 #[.val (.int p1), .val (.int p2), .val (.int p3), .val (.ref b5), .val (.ref b166), .val (.ref b278), .val (.int ((p1 &&& (2147483647 : Int32)) % (17 : Int32))), .val (.int (own_mins ((p1 &&& (2147483647 : Int32)) % (17 : Int32)))), .val (.int (own_maxs ((p1 &&& (2147483647 : Int32)) % (17 : Int32)))), .val (.int (p2.toInt16.toInt32)), .val (.int (p2.toInt16.toInt32)), .val (.int (1 : Int32))] [(.int (p2.toInt16.toInt32)), (.ref r0)])) rfl (by rw [hml]; rfl) (Steps.refl _) (argsL := [(.int (p2.toInt16.toInt32))]) (rest := []) (lenOf own_pd0 rfl) rfl (by show 2 * 0 + _ ≤ _; exact Nat.le_of_eq rfl) (hb hby at_380) (fun _ _ => ⟨rfl, e402, (by decide : 3 + 0 ≤ _), (by decide : 51 + 0 ≤ _)⟩)
        dsimp only [Pt.U, Pt.locs, Pt.cells, Pt.slots] at X464 l464 y464 z464 st464 hQ464
        subst l464 y464 z464
        obtain ⟨N464q, rfl, eh464⟩ := hQ464
        have N469 := Fr.app N403 N464q
        refine own_tr st464 ?_
        obtain ⟨Lp470, Xp470, Np470⟩ : ∃ L, Stand p l e room_1 s m #[(.int p1), (.int p2), (.int p3)] below meth c T464 L 3 51 ∧ Fr n0 L := ⟨_, X464, N469⟩
        show own_Go p e below s _ _ _ (T464.setTop (mkF m 383 #[.val (.int p1), .val (.int p2), .val (.int p3), .val (.ref b5), .val (.ref b166), .val (.ref b278), .val (.int ((p1 &&& (2147483647 : Int32)) % (17 : Int32))), .val (.int (own_mins ((p1 &&& (2147483647 : Int32)) % (17 : Int32)))), .val (.int (own_maxs ((p1 &&& (2147483647 : Int32)) % (17 : Int32)))), .val (.int (p2.toInt16.toInt32)), .val (.int (p2.toInt16.toInt32)), .val (.int (1 : Int32))] [(.int (if (p2.toInt16.toInt32) < (own_mins ((p1 &&& (2147483647 : Int32)) % (17 : Int32))) then (0 : Int32) else if (own_maxs ((p1 &&& (2147483647 : Int32)) % (17 : Int32))) < (p2.toInt16.toInt32) then 0 else 1))]))
        refine own_st (fun _ kQ => XS.iload Xp470.here hx rfl (hb hby at_383) rfl kQ) ?_
        show own_Go p e below s _ _ _ (T464.setTop (mkF m 385 #[.val (.int p1), .val (.int p2), .val (.int p3), .val (.ref b5), .val (.ref b166), .val (.ref b278), .val (.int ((p1 &&& (2147483647 : Int32)) % (17 : Int32))), .val (.int (own_mins ((p1 &&& (2147483647 : Int32)) % (17 : Int32)))), .val (.int (own_maxs ((p1 &&& (2147483647 : Int32)) % (17 : Int32)))), .val (.int (p2.toInt16.toInt32)), .val (.int (p2.toInt16.toInt32)), .val (.int (1 : Int32))] [(.int (1 : Int32)), (.int (if (p2.toInt16.toInt32) < (own_mins ((p1 &&& (2147483647 : Int32)) % (17 : Int32))) then (0 : Int32) else if (own_maxs ((p1 &&& (2147483647 : Int32)) % (17 : Int32))) < (p2.toInt16.toInt32) then 0 else 1))]))
        refine own_st (fun _ kQ => XS.icmpNo Xp470.here hx rfl (hb hby at_385) rfl (XT.ii_ne_f (by rw [if_neg hc442, if_neg hc452])) kQ) ?_
        show own_Go p e below s _ _ _ (T464.setTop (mkF m 388 #[.val (.int p1), .val (.int p2), .val (.int p3), .val (.ref b5), .val (.ref b166), .val (.ref b278), .val (.int ((p1 &&& (2147483647 : Int32)) % (17 : Int32))), .val (.int (own_mins ((p1 &&& (2147483647 : Int32)) % (17 : Int32)))), .val (.int (own_maxs ((p1 &&& (2147483647 : Int32)) % (17 : Int32)))), .val (.int (p2.toInt16.toInt32)), .val (.int (p2.toInt16.toInt32)), .val (.int (1 : Int32))] []))
        refine own_st (fun _ kQ => XT.iconstV Xp470.here hx rfl (1 : Int32) (hb hby at_388) (by decide) kQ) ?_
        show own_Go p e below s _ _ _ (T464.setTop (mkF m 389 #[.val (.int p1), .val (.int p2), .val (.int p3), .val (.ref b5), .val (.ref b166), .val (.ref b278), .val (.int ((p1 &&& (2147483647 : Int32)) % (17 : Int32))), .val (.int (own_mins ((p1 &&& (2147483647 : Int32)) % (17 : Int32)))), .val (.int (own_maxs ((p1 &&& (2147483647 : Int32)) % (17 : Int32)))), .val (.int (p2.toInt16.toInt32)), .val (.int (p2.toInt16.toInt32)), .val (.int (1 : Int32))] [(.int (1 : Int32))]))
        refine own_st (fun _ kQ => XS.goto Xp470.here hx rfl (pc0 := 389) (pc' := 393) rfl (hb hby at_389) (by decide) (by decide) kQ) ?_
        show own_Go p e below s _ _ _ (T464.setTop (mkF m 393 #[.val (.int p1), .val (.int p2), .val (.int p3), .val (.ref b5), .val (.ref b166), .val (.ref b278), .val (.int ((p1 &&& (2147483647 : Int32)) % (17 : Int32))), .val (.int (own_mins ((p1 &&& (2147483647 : Int32)) % (17 : Int32)))), .val (.int (own_maxs ((p1 &&& (2147483647 : Int32)) % (17 : Int32)))), .val (.int (p2.toInt16.toInt32)), .val (.int (p2.toInt16.toInt32)), .val (.int (1 : Int32))] [(.int (1 : Int32))]))
        refine own_retN Xp470 hx hlk Bd.returns (t := .boolean) (z' := (1 : Int32)) (by simp) (by decide) (hb hby at_393) (by decide) (by decide) ?_
        rw [eh464]
        exact ⟨Np470, rfl⟩
set_option maxRecDepth 65536 in
set_option maxHeartbeats 40000000 in
theorem comes_1 {Post : Tables → Env → Array Value → State → Outcome → State → Prop} (hpost : ∀ tb e args s v u, (limb_1_1.after args s (.returned v) u = true ∧ limb_1_2.after args s (.returned v) u = true ∧ True) → FrameEnd s (.returned v) u (Jvm.fieldLocs frame_1_writes args s ++ Jvm.arrayLocs frame_1_arrays args s ++ Jvm.staticLocs frame_1_statics s) 16 192 → Post tb e args s (.returned v) u) :
    ArmFor flags0 classFile x code maxLocals ret World_1 tables_1 room_1 Calls_1 rest_1 Pre_1 Post := by
  intro l hfl _ _ p e ha hc hk s m args below hf hA hF happ hP
  obtain ⟨hcalls, hrest, hpre⟩ := hP
  obtain ⟨-, -, -, hnamed, -, -, -, hat⟩ := (Spec.applies_iff hf).mp happ
  obtain ⟨hg, hn⟩ := and_e (Cond.before_iff.mp (show (Jvm.Cond.and given_1 narrow_1).before args s = true from hpre))
  obtain ⟨gg0, hg0⟩ := and_e hg
  obtain ⟨gg1, hg1⟩ := and_e hg0
  obtain ⟨gg2, hg2⟩ := and_e hg1
  obtain ⟨w0, w1, w2, rfl⟩ : ∃ w0 w1 w2 : Value, args = #[w0, w1, w2] := by
    have hs : args.size = 3 := by simpa [Cond.value, given_1] using gg0
    obtain ⟨L⟩ := args
    match L, hs with
    | [w0, w1, w2], _ => exact ⟨w0, w1, w2, rfl⟩
  have hw := fun d (hd : d ∈ tables_1) => atoms_spec (ws := Jvm.Cond.code x code maxLocals ret :: tables_1) hat d (List.mem_cons_of_mem _ hd)
  have hfit : Fit s := fun {y c} hc i hi => by
    obtain ⟨ha, rfl⟩ := Array.getElem?_eq_some_iff.mp hc
    have q := List.all_eq_true.mp ((Array.all_eq_true_iff_forall_mem.mp hF) _ (Array.getElem_mem ha)) i (List.mem_range.mpr hi)
    simpa [Array.getElem?_eq_getElem hi] using q
  obtain ⟨i0, ei0⟩ := is_v gg1
  obtain rfl : w0 = (.int i0) := Option.some.inj ei0
  obtain ⟨i1, ei1⟩ := is_v gg2
  obtain rfl : w1 = (.int i1) := Option.some.inj ei1
  obtain ⟨i2, ei2⟩ := is_v hg2
  obtain rfl : w2 = (.int i2) := Option.some.inj ei2
  obtain ⟨nn0, hn0⟩ := and_e hn
  obtain ⟨nn1, hn1⟩ := and_e hn0
  obtain ⟨nn2, hn2⟩ := and_e hn1
  obtain ⟨nn3, hn3⟩ := and_e hn2
  obtain ⟨nn4, hn4⟩ := and_e hn3
  obtain ⟨nn5, hn5⟩ := and_e hn4
  obtain ⟨nn6, hn6⟩ := and_e hn5
  obtain ⟨nn7, hn7⟩ := and_e hn6
  obtain ⟨nn8, hn8⟩ := and_e hn7
  obtain ⟨nn9, hn9⟩ := and_e hn8
  obtain ⟨nn10, hn10⟩ := and_e hn9
  obtain ⟨nn11, hn11⟩ := and_e hn10
  obtain ⟨nn12, hn12⟩ := and_e hn11
  obtain ⟨nn13, hn13⟩ := and_e hn12
  obtain ⟨nn14, hn14⟩ := and_e hn13
  obtain ⟨nn15, hn15⟩ := and_e hn14
  obtain ⟨nn16, hn16⟩ := and_e hn15
  obtain ⟨nn17, hn17⟩ := and_e hn16
  obtain ⟨nn18, hn18⟩ := and_e hn17
  obtain ⟨nn19, hn19⟩ := and_e hn18
  obtain ⟨nn20, hn20⟩ := and_e hn19
  obtain ⟨nn21, hn21⟩ := and_e hn20
  obtain ⟨nn22, hn22⟩ := and_e hn21
  obtain ⟨nn23, hn23⟩ := and_e hn22
  obtain ⟨nn24, hn24⟩ := and_e hn23
  obtain ⟨nn25, hn25⟩ := and_e hn24
  obtain ⟨nn26, hn26⟩ := and_e hn25
  obtain ⟨nn27, hn27⟩ := and_e hn26
  obtain ⟨nn28, hn28⟩ := and_e hn27
  obtain ⟨nn29, hn29⟩ := and_e hn28
  obtain ⟨nn30, hn30⟩ := and_e hn29
  obtain ⟨nn31, hn31⟩ := and_e hn30
  obtain ⟨nn32, hn32⟩ := and_e hn31
  obtain ⟨nn33, hn33⟩ := and_e hn32
  obtain ⟨nn34, hn34⟩ := and_e hn33
  obtain ⟨nn35, hn35⟩ := and_e hn34
  obtain ⟨nn36, hn36⟩ := and_e hn35
  obtain ⟨nn37, hn37⟩ := and_e hn36
  obtain ⟨nn38, hn38⟩ := and_e hn37
  obtain ⟨nn39, hn39⟩ := and_e hn38
  obtain ⟨nn40, hn40⟩ := and_e hn39
  obtain ⟨nn41, hn41⟩ := and_e hn40
  obtain ⟨nn42, hn42⟩ := and_e hn41
  obtain ⟨nn43, hn43⟩ := and_e hn42
  obtain ⟨nn44, hn44⟩ := and_e hn43
  obtain ⟨nn45, hn45⟩ := and_e hn44
  obtain ⟨nn46, hn46⟩ := and_e hn45
  obtain ⟨nn47, hn47⟩ := and_e hn46
  obtain ⟨nn48, hn48⟩ := and_e hn47
  obtain ⟨nn49, hn49⟩ := and_e hn48
  obtain ⟨a_PRODUCE, e_a_PRODUCE⟩ := exa_v nn0
  have Ex_a_PRODUCE : Exa s s.heap a_PRODUCE "com/example/epoch/epoch/protocol/ApiKey" := Exa.start e_a_PRODUCE nn0
  have S_a_PRODUCE : Sta s s.heap "com/example/epoch/epoch/protocol/ApiKey" "PRODUCE" "Lcom/example/epoch/epoch/protocol/ApiKey;" (.ref a_PRODUCE) := Sta.start e_a_PRODUCE (Or.inr ⟨(hw _ (List.mem_of_getElem? (i := 3) rfl)), (hw _ (List.mem_of_getElem? (i := 4) rfl))⟩)
  obtain ⟨a_FETCH, e_a_FETCH⟩ := exa_v nn1
  have Ex_a_FETCH : Exa s s.heap a_FETCH "com/example/epoch/epoch/protocol/ApiKey" := Exa.start e_a_FETCH nn1
  have S_a_FETCH : Sta s s.heap "com/example/epoch/epoch/protocol/ApiKey" "FETCH" "Lcom/example/epoch/epoch/protocol/ApiKey;" (.ref a_FETCH) := Sta.start e_a_FETCH (Or.inr ⟨(hw _ (List.mem_of_getElem? (i := 3) rfl)), (hw _ (List.mem_of_getElem? (i := 7) rfl))⟩)
  obtain ⟨a_LIST_OFFSETS, e_a_LIST_OFFSETS⟩ := exa_v nn2
  have Ex_a_LIST_OFFSETS : Exa s s.heap a_LIST_OFFSETS "com/example/epoch/epoch/protocol/ApiKey" := Exa.start e_a_LIST_OFFSETS nn2
  have S_a_LIST_OFFSETS : Sta s s.heap "com/example/epoch/epoch/protocol/ApiKey" "LIST_OFFSETS" "Lcom/example/epoch/epoch/protocol/ApiKey;" (.ref a_LIST_OFFSETS) := Sta.start e_a_LIST_OFFSETS (Or.inr ⟨(hw _ (List.mem_of_getElem? (i := 3) rfl)), (hw _ (List.mem_of_getElem? (i := 9) rfl))⟩)
  obtain ⟨a_METADATA, e_a_METADATA⟩ := exa_v nn3
  have Ex_a_METADATA : Exa s s.heap a_METADATA "com/example/epoch/epoch/protocol/ApiKey" := Exa.start e_a_METADATA nn3
  have S_a_METADATA : Sta s s.heap "com/example/epoch/epoch/protocol/ApiKey" "METADATA" "Lcom/example/epoch/epoch/protocol/ApiKey;" (.ref a_METADATA) := Sta.start e_a_METADATA (Or.inr ⟨(hw _ (List.mem_of_getElem? (i := 3) rfl)), (hw _ (List.mem_of_getElem? (i := 11) rfl))⟩)
  obtain ⟨a_OFFSET_COMMIT, e_a_OFFSET_COMMIT⟩ := exa_v nn4
  have Ex_a_OFFSET_COMMIT : Exa s s.heap a_OFFSET_COMMIT "com/example/epoch/epoch/protocol/ApiKey" := Exa.start e_a_OFFSET_COMMIT nn4
  have S_a_OFFSET_COMMIT : Sta s s.heap "com/example/epoch/epoch/protocol/ApiKey" "OFFSET_COMMIT" "Lcom/example/epoch/epoch/protocol/ApiKey;" (.ref a_OFFSET_COMMIT) := Sta.start e_a_OFFSET_COMMIT (Or.inr ⟨(hw _ (List.mem_of_getElem? (i := 3) rfl)), (hw _ (List.mem_of_getElem? (i := 13) rfl))⟩)
  obtain ⟨a_OFFSET_FETCH, e_a_OFFSET_FETCH⟩ := exa_v nn5
  have Ex_a_OFFSET_FETCH : Exa s s.heap a_OFFSET_FETCH "com/example/epoch/epoch/protocol/ApiKey" := Exa.start e_a_OFFSET_FETCH nn5
  have S_a_OFFSET_FETCH : Sta s s.heap "com/example/epoch/epoch/protocol/ApiKey" "OFFSET_FETCH" "Lcom/example/epoch/epoch/protocol/ApiKey;" (.ref a_OFFSET_FETCH) := Sta.start e_a_OFFSET_FETCH (Or.inr ⟨(hw _ (List.mem_of_getElem? (i := 3) rfl)), (hw _ (List.mem_of_getElem? (i := 15) rfl))⟩)
  obtain ⟨a_FIND_COORDINATOR, e_a_FIND_COORDINATOR⟩ := exa_v nn6
  have Ex_a_FIND_COORDINATOR : Exa s s.heap a_FIND_COORDINATOR "com/example/epoch/epoch/protocol/ApiKey" := Exa.start e_a_FIND_COORDINATOR nn6
  have S_a_FIND_COORDINATOR : Sta s s.heap "com/example/epoch/epoch/protocol/ApiKey" "FIND_COORDINATOR" "Lcom/example/epoch/epoch/protocol/ApiKey;" (.ref a_FIND_COORDINATOR) := Sta.start e_a_FIND_COORDINATOR (Or.inr ⟨(hw _ (List.mem_of_getElem? (i := 3) rfl)), (hw _ (List.mem_of_getElem? (i := 17) rfl))⟩)
  obtain ⟨a_JOIN_GROUP, e_a_JOIN_GROUP⟩ := exa_v nn7
  have Ex_a_JOIN_GROUP : Exa s s.heap a_JOIN_GROUP "com/example/epoch/epoch/protocol/ApiKey" := Exa.start e_a_JOIN_GROUP nn7
  have S_a_JOIN_GROUP : Sta s s.heap "com/example/epoch/epoch/protocol/ApiKey" "JOIN_GROUP" "Lcom/example/epoch/epoch/protocol/ApiKey;" (.ref a_JOIN_GROUP) := Sta.start e_a_JOIN_GROUP (Or.inr ⟨(hw _ (List.mem_of_getElem? (i := 3) rfl)), (hw _ (List.mem_of_getElem? (i := 19) rfl))⟩)
  obtain ⟨a_HEARTBEAT, e_a_HEARTBEAT⟩ := exa_v nn8
  have Ex_a_HEARTBEAT : Exa s s.heap a_HEARTBEAT "com/example/epoch/epoch/protocol/ApiKey" := Exa.start e_a_HEARTBEAT nn8
  have S_a_HEARTBEAT : Sta s s.heap "com/example/epoch/epoch/protocol/ApiKey" "HEARTBEAT" "Lcom/example/epoch/epoch/protocol/ApiKey;" (.ref a_HEARTBEAT) := Sta.start e_a_HEARTBEAT (Or.inr ⟨(hw _ (List.mem_of_getElem? (i := 3) rfl)), (hw _ (List.mem_of_getElem? (i := 21) rfl))⟩)
  obtain ⟨a_LEAVE_GROUP, e_a_LEAVE_GROUP⟩ := exa_v nn9
  have Ex_a_LEAVE_GROUP : Exa s s.heap a_LEAVE_GROUP "com/example/epoch/epoch/protocol/ApiKey" := Exa.start e_a_LEAVE_GROUP nn9
  have S_a_LEAVE_GROUP : Sta s s.heap "com/example/epoch/epoch/protocol/ApiKey" "LEAVE_GROUP" "Lcom/example/epoch/epoch/protocol/ApiKey;" (.ref a_LEAVE_GROUP) := Sta.start e_a_LEAVE_GROUP (Or.inr ⟨(hw _ (List.mem_of_getElem? (i := 3) rfl)), (hw _ (List.mem_of_getElem? (i := 23) rfl))⟩)
  obtain ⟨a_SYNC_GROUP, e_a_SYNC_GROUP⟩ := exa_v nn10
  have Ex_a_SYNC_GROUP : Exa s s.heap a_SYNC_GROUP "com/example/epoch/epoch/protocol/ApiKey" := Exa.start e_a_SYNC_GROUP nn10
  have S_a_SYNC_GROUP : Sta s s.heap "com/example/epoch/epoch/protocol/ApiKey" "SYNC_GROUP" "Lcom/example/epoch/epoch/protocol/ApiKey;" (.ref a_SYNC_GROUP) := Sta.start e_a_SYNC_GROUP (Or.inr ⟨(hw _ (List.mem_of_getElem? (i := 3) rfl)), (hw _ (List.mem_of_getElem? (i := 25) rfl))⟩)
  obtain ⟨a_API_VERSIONS, e_a_API_VERSIONS⟩ := exa_v nn11
  have Ex_a_API_VERSIONS : Exa s s.heap a_API_VERSIONS "com/example/epoch/epoch/protocol/ApiKey" := Exa.start e_a_API_VERSIONS nn11
  have S_a_API_VERSIONS : Sta s s.heap "com/example/epoch/epoch/protocol/ApiKey" "API_VERSIONS" "Lcom/example/epoch/epoch/protocol/ApiKey;" (.ref a_API_VERSIONS) := Sta.start e_a_API_VERSIONS (Or.inr ⟨(hw _ (List.mem_of_getElem? (i := 3) rfl)), (hw _ (List.mem_of_getElem? (i := 27) rfl))⟩)
  obtain ⟨a_INIT_PRODUCER_ID, e_a_INIT_PRODUCER_ID⟩ := exa_v nn12
  have Ex_a_INIT_PRODUCER_ID : Exa s s.heap a_INIT_PRODUCER_ID "com/example/epoch/epoch/protocol/ApiKey" := Exa.start e_a_INIT_PRODUCER_ID nn12
  have S_a_INIT_PRODUCER_ID : Sta s s.heap "com/example/epoch/epoch/protocol/ApiKey" "INIT_PRODUCER_ID" "Lcom/example/epoch/epoch/protocol/ApiKey;" (.ref a_INIT_PRODUCER_ID) := Sta.start e_a_INIT_PRODUCER_ID (Or.inr ⟨(hw _ (List.mem_of_getElem? (i := 3) rfl)), (hw _ (List.mem_of_getElem? (i := 29) rfl))⟩)
  obtain ⟨a_ADD_PARTITIONS_TO_TXN, e_a_ADD_PARTITIONS_TO_TXN⟩ := exa_v nn13
  have Ex_a_ADD_PARTITIONS_TO_TXN : Exa s s.heap a_ADD_PARTITIONS_TO_TXN "com/example/epoch/epoch/protocol/ApiKey" := Exa.start e_a_ADD_PARTITIONS_TO_TXN nn13
  have S_a_ADD_PARTITIONS_TO_TXN : Sta s s.heap "com/example/epoch/epoch/protocol/ApiKey" "ADD_PARTITIONS_TO_TXN" "Lcom/example/epoch/epoch/protocol/ApiKey;" (.ref a_ADD_PARTITIONS_TO_TXN) := Sta.start e_a_ADD_PARTITIONS_TO_TXN (Or.inr ⟨(hw _ (List.mem_of_getElem? (i := 3) rfl)), (hw _ (List.mem_of_getElem? (i := 31) rfl))⟩)
  obtain ⟨a_ADD_OFFSETS_TO_TXN, e_a_ADD_OFFSETS_TO_TXN⟩ := exa_v nn14
  have Ex_a_ADD_OFFSETS_TO_TXN : Exa s s.heap a_ADD_OFFSETS_TO_TXN "com/example/epoch/epoch/protocol/ApiKey" := Exa.start e_a_ADD_OFFSETS_TO_TXN nn14
  have S_a_ADD_OFFSETS_TO_TXN : Sta s s.heap "com/example/epoch/epoch/protocol/ApiKey" "ADD_OFFSETS_TO_TXN" "Lcom/example/epoch/epoch/protocol/ApiKey;" (.ref a_ADD_OFFSETS_TO_TXN) := Sta.start e_a_ADD_OFFSETS_TO_TXN (Or.inr ⟨(hw _ (List.mem_of_getElem? (i := 3) rfl)), (hw _ (List.mem_of_getElem? (i := 33) rfl))⟩)
  obtain ⟨a_END_TXN, e_a_END_TXN⟩ := exa_v nn15
  have Ex_a_END_TXN : Exa s s.heap a_END_TXN "com/example/epoch/epoch/protocol/ApiKey" := Exa.start e_a_END_TXN nn15
  have S_a_END_TXN : Sta s s.heap "com/example/epoch/epoch/protocol/ApiKey" "END_TXN" "Lcom/example/epoch/epoch/protocol/ApiKey;" (.ref a_END_TXN) := Sta.start e_a_END_TXN (Or.inr ⟨(hw _ (List.mem_of_getElem? (i := 3) rfl)), (hw _ (List.mem_of_getElem? (i := 35) rfl))⟩)
  obtain ⟨a_TXN_OFFSET_COMMIT, e_a_TXN_OFFSET_COMMIT⟩ := exa_v nn16
  have Ex_a_TXN_OFFSET_COMMIT : Exa s s.heap a_TXN_OFFSET_COMMIT "com/example/epoch/epoch/protocol/ApiKey" := Exa.start e_a_TXN_OFFSET_COMMIT nn16
  have S_a_TXN_OFFSET_COMMIT : Sta s s.heap "com/example/epoch/epoch/protocol/ApiKey" "TXN_OFFSET_COMMIT" "Lcom/example/epoch/epoch/protocol/ApiKey;" (.ref a_TXN_OFFSET_COMMIT) := Sta.start e_a_TXN_OFFSET_COMMIT (Or.inr ⟨(hw _ (List.mem_of_getElem? (i := 3) rfl)), (hw _ (List.mem_of_getElem? (i := 37) rfl))⟩)
  have ev_nn17 := own_eqV nn17 (Term.int_eval _)
  have F_PRODUCE_minVersion : Fld s s.heap a_PRODUCE "com/example/epoch/epoch/protocol/ApiKey" "minVersion" "S" (.int (3 : Int32)) := Fld.start ((fld_at e_a_PRODUCE).symm.trans ev_nn17)
  have ev_nn18 := own_eqV nn18 (Term.int_eval _)
  have F_PRODUCE_maxVersion : Fld s s.heap a_PRODUCE "com/example/epoch/epoch/protocol/ApiKey" "maxVersion" "S" (.int (7 : Int32)) := Fld.start ((fld_at e_a_PRODUCE).symm.trans ev_nn18)
  have ev_nn19 := own_eqV nn19 (Term.int_eval _)
  have F_FETCH_minVersion : Fld s s.heap a_FETCH "com/example/epoch/epoch/protocol/ApiKey" "minVersion" "S" (.int (4 : Int32)) := Fld.start ((fld_at e_a_FETCH).symm.trans ev_nn19)
  have ev_nn20 := own_eqV nn20 (Term.int_eval _)
  have F_FETCH_maxVersion : Fld s s.heap a_FETCH "com/example/epoch/epoch/protocol/ApiKey" "maxVersion" "S" (.int (11 : Int32)) := Fld.start ((fld_at e_a_FETCH).symm.trans ev_nn20)
  have ev_nn21 := own_eqV nn21 (Term.int_eval _)
  have F_API_VERSIONS_minVersion : Fld s s.heap a_API_VERSIONS "com/example/epoch/epoch/protocol/ApiKey" "minVersion" "S" (.int (0 : Int32)) := Fld.start ((fld_at e_a_API_VERSIONS).symm.trans ev_nn21)
  have ev_nn22 := own_eqV nn22 (Term.int_eval _)
  have F_API_VERSIONS_maxVersion : Fld s s.heap a_API_VERSIONS "com/example/epoch/epoch/protocol/ApiKey" "maxVersion" "S" (.int (3 : Int32)) := Fld.start ((fld_at e_a_API_VERSIONS).symm.trans ev_nn22)
  have ev_nn23 := own_eqV nn23 (Term.int_eval _)
  have F_HEARTBEAT_minVersion : Fld s s.heap a_HEARTBEAT "com/example/epoch/epoch/protocol/ApiKey" "minVersion" "S" (.int (0 : Int32)) := Fld.start ((fld_at e_a_HEARTBEAT).symm.trans ev_nn23)
  have ev_nn24 := own_eqV nn24 (Term.int_eval _)
  have F_HEARTBEAT_maxVersion : Fld s s.heap a_HEARTBEAT "com/example/epoch/epoch/protocol/ApiKey" "maxVersion" "S" (.int (3 : Int32)) := Fld.start ((fld_at e_a_HEARTBEAT).symm.trans ev_nn24)
  have ev_nn25 := own_eqV nn25 (Term.int_eval _)
  have F_INIT_PRODUCER_ID_minVersion : Fld s s.heap a_INIT_PRODUCER_ID "com/example/epoch/epoch/protocol/ApiKey" "minVersion" "S" (.int (0 : Int32)) := Fld.start ((fld_at e_a_INIT_PRODUCER_ID).symm.trans ev_nn25)
  have ev_nn26 := own_eqV nn26 (Term.int_eval _)
  have F_ADD_PARTITIONS_TO_TXN_minVersion : Fld s s.heap a_ADD_PARTITIONS_TO_TXN "com/example/epoch/epoch/protocol/ApiKey" "minVersion" "S" (.int (0 : Int32)) := Fld.start ((fld_at e_a_ADD_PARTITIONS_TO_TXN).symm.trans ev_nn26)
  have ev_nn27 := own_eqV nn27 (Term.int_eval _)
  have F_ADD_PARTITIONS_TO_TXN_maxVersion : Fld s s.heap a_ADD_PARTITIONS_TO_TXN "com/example/epoch/epoch/protocol/ApiKey" "maxVersion" "S" (.int (0 : Int32)) := Fld.start ((fld_at e_a_ADD_PARTITIONS_TO_TXN).symm.trans ev_nn27)
  have ev_nn28 := own_eqV nn28 (Term.int_eval _)
  have F_METADATA_minVersion : Fld s s.heap a_METADATA "com/example/epoch/epoch/protocol/ApiKey" "minVersion" "S" (.int (0 : Int32)) := Fld.start ((fld_at e_a_METADATA).symm.trans ev_nn28)
  have ev_nn29 := own_eqV nn29 (Term.int_eval _)
  have F_METADATA_maxVersion : Fld s s.heap a_METADATA "com/example/epoch/epoch/protocol/ApiKey" "maxVersion" "S" (.int (4 : Int32)) := Fld.start ((fld_at e_a_METADATA).symm.trans ev_nn29)
  have ev_nn30 := own_eqV nn30 (Term.int_eval _)
  have F_SYNC_GROUP_minVersion : Fld s s.heap a_SYNC_GROUP "com/example/epoch/epoch/protocol/ApiKey" "minVersion" "S" (.int (0 : Int32)) := Fld.start ((fld_at e_a_SYNC_GROUP).symm.trans ev_nn30)
  have ev_nn31 := own_eqV nn31 (Term.int_eval _)
  have F_SYNC_GROUP_maxVersion : Fld s s.heap a_SYNC_GROUP "com/example/epoch/epoch/protocol/ApiKey" "maxVersion" "S" (.int (3 : Int32)) := Fld.start ((fld_at e_a_SYNC_GROUP).symm.trans ev_nn31)
  have ev_nn32 := own_eqV nn32 (Term.int_eval _)
  have F_TXN_OFFSET_COMMIT_minVersion : Fld s s.heap a_TXN_OFFSET_COMMIT "com/example/epoch/epoch/protocol/ApiKey" "minVersion" "S" (.int (0 : Int32)) := Fld.start ((fld_at e_a_TXN_OFFSET_COMMIT).symm.trans ev_nn32)
  have ev_nn33 := own_eqV nn33 (Term.int_eval _)
  have F_TXN_OFFSET_COMMIT_maxVersion : Fld s s.heap a_TXN_OFFSET_COMMIT "com/example/epoch/epoch/protocol/ApiKey" "maxVersion" "S" (.int (3 : Int32)) := Fld.start ((fld_at e_a_TXN_OFFSET_COMMIT).symm.trans ev_nn33)
  have ev_nn34 := own_eqV nn34 (Term.int_eval _)
  have F_JOIN_GROUP_minVersion : Fld s s.heap a_JOIN_GROUP "com/example/epoch/epoch/protocol/ApiKey" "minVersion" "S" (.int (0 : Int32)) := Fld.start ((fld_at e_a_JOIN_GROUP).symm.trans ev_nn34)
  have ev_nn35 := own_eqV nn35 (Term.int_eval _)
  have F_LIST_OFFSETS_minVersion : Fld s s.heap a_LIST_OFFSETS "com/example/epoch/epoch/protocol/ApiKey" "minVersion" "S" (.int (1 : Int32)) := Fld.start ((fld_at e_a_LIST_OFFSETS).symm.trans ev_nn35)
  have ev_nn36 := own_eqV nn36 (Term.int_eval _)
  have F_LIST_OFFSETS_maxVersion : Fld s s.heap a_LIST_OFFSETS "com/example/epoch/epoch/protocol/ApiKey" "maxVersion" "S" (.int (2 : Int32)) := Fld.start ((fld_at e_a_LIST_OFFSETS).symm.trans ev_nn36)
  have ev_nn37 := own_eqV nn37 (Term.int_eval _)
  have F_OFFSET_COMMIT_minVersion : Fld s s.heap a_OFFSET_COMMIT "com/example/epoch/epoch/protocol/ApiKey" "minVersion" "S" (.int (0 : Int32)) := Fld.start ((fld_at e_a_OFFSET_COMMIT).symm.trans ev_nn37)
  have ev_nn38 := own_eqV nn38 (Term.int_eval _)
  have F_OFFSET_COMMIT_maxVersion : Fld s s.heap a_OFFSET_COMMIT "com/example/epoch/epoch/protocol/ApiKey" "maxVersion" "S" (.int (7 : Int32)) := Fld.start ((fld_at e_a_OFFSET_COMMIT).symm.trans ev_nn38)
  have ev_nn39 := own_eqV nn39 (Term.int_eval _)
  have F_OFFSET_FETCH_minVersion : Fld s s.heap a_OFFSET_FETCH "com/example/epoch/epoch/protocol/ApiKey" "minVersion" "S" (.int (0 : Int32)) := Fld.start ((fld_at e_a_OFFSET_FETCH).symm.trans ev_nn39)
  have ev_nn40 := own_eqV nn40 (Term.int_eval _)
  have F_JOIN_GROUP_maxVersion : Fld s s.heap a_JOIN_GROUP "com/example/epoch/epoch/protocol/ApiKey" "maxVersion" "S" (.int (5 : Int32)) := Fld.start ((fld_at e_a_JOIN_GROUP).symm.trans ev_nn40)
  have ev_nn41 := own_eqV nn41 (Term.int_eval _)
  have F_OFFSET_FETCH_maxVersion : Fld s s.heap a_OFFSET_FETCH "com/example/epoch/epoch/protocol/ApiKey" "maxVersion" "S" (.int (7 : Int32)) := Fld.start ((fld_at e_a_OFFSET_FETCH).symm.trans ev_nn41)
  have ev_nn42 := own_eqV nn42 (Term.int_eval _)
  have F_ADD_OFFSETS_TO_TXN_minVersion : Fld s s.heap a_ADD_OFFSETS_TO_TXN "com/example/epoch/epoch/protocol/ApiKey" "minVersion" "S" (.int (0 : Int32)) := Fld.start ((fld_at e_a_ADD_OFFSETS_TO_TXN).symm.trans ev_nn42)
  have ev_nn43 := own_eqV nn43 (Term.int_eval _)
  have F_FIND_COORDINATOR_minVersion : Fld s s.heap a_FIND_COORDINATOR "com/example/epoch/epoch/protocol/ApiKey" "minVersion" "S" (.int (0 : Int32)) := Fld.start ((fld_at e_a_FIND_COORDINATOR).symm.trans ev_nn43)
  have ev_nn44 := own_eqV nn44 (Term.int_eval _)
  have F_FIND_COORDINATOR_maxVersion : Fld s s.heap a_FIND_COORDINATOR "com/example/epoch/epoch/protocol/ApiKey" "maxVersion" "S" (.int (2 : Int32)) := Fld.start ((fld_at e_a_FIND_COORDINATOR).symm.trans ev_nn44)
  have ev_nn45 := own_eqV nn45 (Term.int_eval _)
  have F_LEAVE_GROUP_minVersion : Fld s s.heap a_LEAVE_GROUP "com/example/epoch/epoch/protocol/ApiKey" "minVersion" "S" (.int (0 : Int32)) := Fld.start ((fld_at e_a_LEAVE_GROUP).symm.trans ev_nn45)
  have ev_nn46 := own_eqV nn46 (Term.int_eval _)
  have F_LEAVE_GROUP_maxVersion : Fld s s.heap a_LEAVE_GROUP "com/example/epoch/epoch/protocol/ApiKey" "maxVersion" "S" (.int (1 : Int32)) := Fld.start ((fld_at e_a_LEAVE_GROUP).symm.trans ev_nn46)
  have ev_nn47 := own_eqV nn47 (Term.int_eval _)
  have F_END_TXN_minVersion : Fld s s.heap a_END_TXN "com/example/epoch/epoch/protocol/ApiKey" "minVersion" "S" (.int (0 : Int32)) := Fld.start ((fld_at e_a_END_TXN).symm.trans ev_nn47)
  have ev_nn48 := own_eqV nn48 (Term.int_eval _)
  have F_END_TXN_maxVersion : Fld s s.heap a_END_TXN "com/example/epoch/epoch/protocol/ApiKey" "maxVersion" "S" (.int (1 : Int32)) := Fld.start ((fld_at e_a_END_TXN).symm.trans ev_nn48)
  have ev_nn49 := own_eqV nn49 (Term.int_eval _)
  have F_ADD_OFFSETS_TO_TXN_maxVersion : Fld s s.heap a_ADD_OFFSETS_TO_TXN "com/example/epoch/epoch/protocol/ApiKey" "maxVersion" "S" (.int (0 : Int32)) := Fld.start ((fld_at e_a_ADD_OFFSETS_TO_TXN).symm.trans ev_nn49)
  have ev_hn49 := own_eqV hn49 (Term.int_eval _)
  have F_INIT_PRODUCER_ID_maxVersion : Fld s s.heap a_INIT_PRODUCER_ID "com/example/epoch/epoch/protocol/ApiKey" "maxVersion" "S" (.int (4 : Int32)) := Fld.start ((fld_at e_a_INIT_PRODUCER_ID).symm.trans ev_hn49)
  obtain ⟨n, o, h1, h2, h3, _, L, rfl, ⟨N, rfl⟩, hq⟩ := own_law l s _ hw tables_1 i0 i1 i2 a_PRODUCE a_FETCH a_LIST_OFFSETS a_METADATA a_OFFSET_COMMIT a_OFFSET_FETCH a_FIND_COORDINATOR a_JOIN_GROUP a_HEARTBEAT a_LEAVE_GROUP a_SYNC_GROUP a_API_VERSIONS a_INIT_PRODUCER_ID a_ADD_PARTITIONS_TO_TXN a_ADD_OFFSETS_TO_TXN a_END_TXN a_TXN_OFFSET_COMMIT s.heap s.heap.size (Nat.le_refl _) (Old.start s) Ex_a_PRODUCE S_a_PRODUCE Ex_a_FETCH S_a_FETCH Ex_a_LIST_OFFSETS S_a_LIST_OFFSETS Ex_a_METADATA S_a_METADATA Ex_a_OFFSET_COMMIT S_a_OFFSET_COMMIT Ex_a_OFFSET_FETCH S_a_OFFSET_FETCH Ex_a_FIND_COORDINATOR S_a_FIND_COORDINATOR Ex_a_JOIN_GROUP S_a_JOIN_GROUP Ex_a_HEARTBEAT S_a_HEARTBEAT Ex_a_LEAVE_GROUP S_a_LEAVE_GROUP Ex_a_SYNC_GROUP S_a_SYNC_GROUP Ex_a_API_VERSIONS S_a_API_VERSIONS Ex_a_INIT_PRODUCER_ID S_a_INIT_PRODUCER_ID Ex_a_ADD_PARTITIONS_TO_TXN S_a_ADD_PARTITIONS_TO_TXN Ex_a_ADD_OFFSETS_TO_TXN S_a_ADD_OFFSETS_TO_TXN Ex_a_END_TXN S_a_END_TXN Ex_a_TXN_OFFSET_COMMIT S_a_TXN_OFFSET_COMMIT F_PRODUCE_minVersion F_PRODUCE_maxVersion F_FETCH_minVersion F_FETCH_maxVersion F_API_VERSIONS_minVersion F_API_VERSIONS_maxVersion F_HEARTBEAT_minVersion F_HEARTBEAT_maxVersion F_INIT_PRODUCER_ID_minVersion F_ADD_PARTITIONS_TO_TXN_minVersion F_ADD_PARTITIONS_TO_TXN_maxVersion F_METADATA_minVersion F_METADATA_maxVersion F_SYNC_GROUP_minVersion F_SYNC_GROUP_maxVersion F_TXN_OFFSET_COMMIT_minVersion F_TXN_OFFSET_COMMIT_maxVersion F_JOIN_GROUP_minVersion F_LIST_OFFSETS_minVersion F_LIST_OFFSETS_maxVersion F_OFFSET_COMMIT_minVersion F_OFFSET_COMMIT_maxVersion F_OFFSET_FETCH_minVersion F_JOIN_GROUP_maxVersion F_OFFSET_FETCH_maxVersion F_ADD_OFFSETS_TO_TXN_minVersion F_FIND_COORDINATOR_minVersion F_FIND_COORDINATOR_maxVersion F_LEAVE_GROUP_minVersion F_LEAVE_GROUP_maxVersion F_END_TXN_minVersion F_END_TXN_maxVersion F_ADD_OFFSETS_TO_TXN_maxVersion F_INIT_PRODUCER_ID_maxVersion p e ha hc hk s m _ below hf ((Spec.applies_iff_loose hf).mp happ).1 ⟨rfl, State.Warmed39.refl s, rfl⟩ trivial
  refine ⟨n, _, h1, h2, h3, hpost _ _ _ _ _ _ ⟨Cond.after_iff.mpr rfl, Cond.after_iff.mpr (eq_i res_at (Term.int_eval (1)) rfl), trivial⟩ ⟨hq.1, hq.2.1, (hq.2.2.sift fun y hy => Or.inr (N y hy)).mono (by decide) (by decide)⟩⟩
theorem main_1_1 : Claimed_1_1 := comes_1 fun _ _ _ _ _ _ h hF => ⟨h.1, hF⟩
theorem main_1_2 : Claimed_1_2 := comes_1 fun _ _ _ _ _ _ h hF => ⟨h.2.1, hF⟩
end Jvm.Pilot.@@N@@
namespace Jvm.Pilot.@@N@@
open Jvm Jvm.ClassFile Sem Op Lib Jvm.Free Jvm.Stand Jvm.Pilot.@@N@@.Jvm.D
/-! MADE BY PROGRAM (witnessworld.py) out of the Statement's table words and the real class files: 13 classes; the members and pool entries that the words name. The judged class is class 1, her method 1. -/
namespace start1
open Jvm.ClassFile
def u (s : String) : CpInfo := .utf8 (stringToUtf16 s)
/-- a pool by its gaps: so many unusable entries, then the entry; so many at the end -/
def gap : Nat → List CpInfo → List CpInfo
  | 0, r => r
  | n + 1, r => .unusable :: gap n r
def poolList (es : List (Nat × CpInfo)) (last : Nat) : List CpInfo := es.foldr (fun e r => gap e.1 (e.2 :: r)) (gap last [])
def pool (es : List (Nat × CpInfo)) (last : Nat) : Array CpInfo := ⟨poolList es last⟩
def fileOf (pool : Array CpInfo) (this : Nat) (attrs : Array Attribute := #[]) (ms : Array MethodInfo := #[]) (fl : Nat := 33) (sup : Nat := 0) (ifs : Array Nat := #[]) (fds : Array FieldInfo := #[]) : ClassFile where
  minorVersion := 0
  majorVersion := 65
  constantPool := pool
  accessFlags := fl
  thisClass := this
  superClass := sup
  interfaces := ifs
  fields := fds
  methods := ms
  attributes := attrs
def plain (name : String) (sup : Option ClassId) : Class where
  name := name
  kind := .ordinary
  loader := none
  accessFlags := 33
  super := sup
  interfaces := #[]
  cf := none
  fields := #[]
  methods := #[]
  instanceTypes := #[]
  staticTypes := #[]
  resolved := #[]
  callSites := []
  init := .initialized
  statics := none
  mirror := none

def pool0 : Array CpInfo := pool [(5, u "<init>"), (0, u "()V"), (1, .class_ 10), (1, u "java/lang/Object")] 113

def k0m0 : Method := { name := "<init>", desc := "()V", sig := { parameters := [], returnType := none }, accessFlags := 1, code := none }
/-- java/lang/Object -/
def k0 : Class := { plain "java/lang/Object" none with
  accessFlags := 33
  interfaces := #[]
  cf := some (fileOf pool0 8 #[] #[{ accessFlags := 1, nameIndex := 5, descriptorIndex := 6, attributes := #[] }] 33 0 #[] #[])
  fields := #[]
  methods := #[k0m0]
  instanceTypes := #[]
  staticTypes := #[]
  resolved := Array.replicate 124 none
  statics := none }

def pool1 : Array CpInfo := pool [(2, .class_ 4), (1, u "java/lang/Object"), (0, u "<init>"), (0, u "()V"), (0, .class_ 8), (0, u "com/example/epoch/epoch/protocol/ApiKey"), (0, .fieldref 7 10), (0, .nameAndType 11 12), (0, u "PRODUCE"), (0, u "Lcom/example/epoch/epoch/protocol/ApiKey;"), (0, .fieldref 7 14), (0, .nameAndType 15 12), (0, u "FETCH"), (0, .fieldref 7 17), (0, .nameAndType 18 12), (0, u "LIST_OFFSETS"), (0, .fieldref 7 20), (0, .nameAndType 21 12), (0, u "METADATA"), (0, .fieldref 7 23), (0, .nameAndType 24 12), (0, u "OFFSET_COMMIT"), (0, .fieldref 7 26), (0, .nameAndType 27 12), (0, u "OFFSET_FETCH"), (0, .fieldref 7 29), (0, .nameAndType 30 12), (0, u "FIND_COORDINATOR"), (0, .fieldref 7 32), (0, .nameAndType 33 12), (0, u "JOIN_GROUP"), (0, .fieldref 7 35), (0, .nameAndType 36 12), (0, u "HEARTBEAT"), (0, .fieldref 7 38), (0, .nameAndType 39 12), (0, u "LEAVE_GROUP"), (0, .fieldref 7 41), (0, .nameAndType 42 12), (0, u "SYNC_GROUP"), (0, .fieldref 7 44), (0, .nameAndType 45 12), (0, u "API_VERSIONS"), (0, .fieldref 7 47), (0, .nameAndType 48 12), (0, u "INIT_PRODUCER_ID"), (0, .fieldref 7 50), (0, .nameAndType 51 12), (0, u "ADD_PARTITIONS_TO_TXN"), (0, .fieldref 7 53), (0, .nameAndType 54 12), (0, u "ADD_OFFSETS_TO_TXN"), (0, .fieldref 7 56), (0, .nameAndType 57 12), (0, u "END_TXN"), (0, .fieldref 7 59), (0, .nameAndType 60 12), (0, u "TXN_OFFSET_COMMIT"), (0, .integer 2147483647), (0, .methodref 7 63), (0, .nameAndType 64 65), (0, u "supports"), (0, u "(S)Z"), (0, .class_ 67), (0, u "com/example/epoch/epoch/protocol/ApiKeySupportsPinLaw"), (2, u "law"), (0, u "(III)Z")] 7

def k1m0 : Method := { name := "<init>", desc := "()V", sig := { parameters := [], returnType := none }, accessFlags := 1, code := none }
def k1c1 : Code := { maxStack := 4, maxLocals := 12, code := code, exceptionTable := #[], attributes := #[] }
def k1m1 : Method := { name := "law", desc := "(III)Z", sig := { parameters := [.int, .int, .int], returnType := some .boolean }, accessFlags := 9, code := some k1c1 }
/-- com/example/epoch/epoch/protocol/ApiKeySupportsPinLaw -/
def k1 : Class := { plain "com/example/epoch/epoch/protocol/ApiKeySupportsPinLaw" (some 0) with
  accessFlags := 49
  interfaces := #[]
  cf := some (fileOf pool1 66 #[] #[{ accessFlags := 1, nameIndex := 5, descriptorIndex := 6, attributes := #[] }, { accessFlags := 9, nameIndex := 70, descriptorIndex := 71, attributes := #[] }] 49 2 #[] #[])
  fields := #[]
  methods := #[k1m0, k1m1]
  instanceTypes := #[]
  staticTypes := #[]
  resolved := Array.replicate 79 none
  statics := none }

def pool2 : Array CpInfo := pool [(1, .class_ 2), (0, u "java/lang/constant/Constable"), (0, .class_ 4), (0, u "java/lang/Object")] 6

/-- java/lang/constant/Constable -/
def k2 : Class := { plain "java/lang/constant/Constable" (some 0) with
  accessFlags := 1537
  interfaces := #[]
  cf := some (fileOf pool2 1 #[] #[] 1537 3 #[] #[])
  fields := #[]
  methods := #[]
  instanceTypes := #[]
  staticTypes := #[]
  resolved := Array.replicate 11 none
  statics := none }

def pool3 : Array CpInfo := pool [(1, .class_ 2), (0, u "java/lang/Comparable"), (0, .class_ 4), (0, u "java/lang/Object")] 7

/-- java/lang/Comparable -/
def k3 : Class := { plain "java/lang/Comparable" (some 0) with
  accessFlags := 1537
  interfaces := #[]
  cf := some (fileOf pool3 1 #[] #[] 1537 3 #[] #[])
  fields := #[]
  methods := #[]
  instanceTypes := #[]
  staticTypes := #[]
  resolved := Array.replicate 12 none
  statics := none }

def pool4 : Array CpInfo := pool [(1, .class_ 2), (0, u "java/io/Serializable"), (0, .class_ 4), (0, u "java/lang/Object")] 2

/-- java/io/Serializable -/
def k4 : Class := { plain "java/io/Serializable" (some 0) with
  accessFlags := 1537
  interfaces := #[]
  cf := some (fileOf pool4 1 #[] #[] 1537 3 #[] #[])
  fields := #[]
  methods := #[]
  instanceTypes := #[]
  staticTypes := #[]
  resolved := Array.replicate 7 none
  statics := none }

def pool5 : Array CpInfo := pool [(2, .class_ 4), (1, u "java/lang/Enum"), (0, u "name"), (0, u "Ljava/lang/String;"), (2, u "ordinal"), (0, u "I"), (1, .class_ 14), (1, u "java/lang/Object"), (4, u "hash"), (86, .class_ 108), (1, u "java/lang/Enum$EnumDesc"), (2, .class_ 112), (0, u "java/lang/constant/Constable"), (0, .class_ 114), (0, u "java/lang/Comparable"), (0, .class_ 116), (0, u "java/io/Serializable")] 87

/-- java/lang/Enum -/
def k5 : Class := { plain "java/lang/Enum" (some 0) with
  accessFlags := 1057
  interfaces := #[2, 3, 4]
  cf := some (fileOf pool5 2 #[.nestMembers #[106]] #[] 1057 12 #[111, 113, 115] #[{ accessFlags := 18, nameIndex := 5, descriptorIndex := 6, attributes := #[] }, { accessFlags := 18, nameIndex := 9, descriptorIndex := 10, attributes := #[] }, { accessFlags := 2, nameIndex := 19, descriptorIndex := 10, attributes := #[] }])
  fields := #[{ name := "name", type := (.object "java/lang/String"), accessFlags := 18, slot := 0, constantValue := 0 }, { name := "ordinal", type := .int, accessFlags := 18, slot := 1, constantValue := 0 }, { name := "hash", type := .int, accessFlags := 2, slot := 2, constantValue := 0 }]
  methods := #[]
  instanceTypes := #[(.object "java/lang/String"), .int, .int]
  staticTypes := #[]
  resolved := Array.replicate 204 none
  statics := none }

def pool6 : Array CpInfo := pool [(1, .class_ 2), (0, u "com/example/epoch/epoch/protocol/ApiKey"), (2, u "PRODUCE"), (0, u "Lcom/example/epoch/epoch/protocol/ApiKey;"), (2, u "FETCH"), (2, u "LIST_OFFSETS"), (2, u "METADATA"), (2, u "OFFSET_COMMIT"), (2, u "OFFSET_FETCH"), (2, u "FIND_COORDINATOR"), (2, u "JOIN_GROUP"), (2, u "HEARTBEAT"), (2, u "LEAVE_GROUP"), (2, u "SYNC_GROUP"), (2, u "API_VERSIONS"), (2, u "INIT_PRODUCER_ID"), (2, u "ADD_PARTITIONS_TO_TXN"), (2, u "ADD_OFFSETS_TO_TXN"), (2, u "END_TXN"), (2, u "TXN_OFFSET_COMMIT"), (2, u "$VALUES"), (0, u "[Lcom/example/epoch/epoch/protocol/ApiKey;"), (6, .class_ 67), (1, u "java/lang/Enum"), (8, u "code"), (0, u "S"), (0, .fieldref 1 79), (0, .nameAndType 80 77), (0, u "minVersion"), (0, .fieldref 1 82), (0, .nameAndType 83 77), (0, u "maxVersion"), (2, u "firstFlexibleVersion"), (37, u "supports"), (0, u "(S)Z")] 6

def k6c0 : Code := { maxStack := 2, maxLocals := 2, code := prog_37_method_8_code, exceptionTable := #[], attributes := #[] }
def k6m0 : Method := { name := "supports", desc := "(S)Z", sig := { parameters := [.short], returnType := some .boolean }, accessFlags := 1, code := some k6c0 }
/-- com/example/epoch/epoch/protocol/ApiKey -/
def k6 : Class := { plain "com/example/epoch/epoch/protocol/ApiKey" (some 5) with
  accessFlags := 16433
  interfaces := #[]
  cf := some (fileOf pool6 1 #[] #[{ accessFlags := 1, nameIndex := 124, descriptorIndex := 125, attributes := #[] }] 16433 65 #[] #[{ accessFlags := 16409, nameIndex := 5, descriptorIndex := 6, attributes := #[] }, { accessFlags := 16409, nameIndex := 9, descriptorIndex := 6, attributes := #[] }, { accessFlags := 16409, nameIndex := 12, descriptorIndex := 6, attributes := #[] }, { accessFlags := 16409, nameIndex := 15, descriptorIndex := 6, attributes := #[] }, { accessFlags := 16409, nameIndex := 18, descriptorIndex := 6, attributes := #[] }, { accessFlags := 16409, nameIndex := 21, descriptorIndex := 6, attributes := #[] }, { accessFlags := 16409, nameIndex := 24, descriptorIndex := 6, attributes := #[] }, { accessFlags := 16409, nameIndex := 27, descriptorIndex := 6, attributes := #[] }, { accessFlags := 16409, nameIndex := 30, descriptorIndex := 6, attributes := #[] }, { accessFlags := 16409, nameIndex := 33, descriptorIndex := 6, attributes := #[] }, { accessFlags := 16409, nameIndex := 36, descriptorIndex := 6, attributes := #[] }, { accessFlags := 16409, nameIndex := 39, descriptorIndex := 6, attributes := #[] }, { accessFlags := 16409, nameIndex := 42, descriptorIndex := 6, attributes := #[] }, { accessFlags := 16409, nameIndex := 45, descriptorIndex := 6, attributes := #[] }, { accessFlags := 16409, nameIndex := 48, descriptorIndex := 6, attributes := #[] }, { accessFlags := 16409, nameIndex := 51, descriptorIndex := 6, attributes := #[] }, { accessFlags := 16409, nameIndex := 54, descriptorIndex := 6, attributes := #[] }, { accessFlags := 18, nameIndex := 76, descriptorIndex := 77, attributes := #[] }, { accessFlags := 18, nameIndex := 80, descriptorIndex := 77, attributes := #[] }, { accessFlags := 18, nameIndex := 83, descriptorIndex := 77, attributes := #[] }, { accessFlags := 18, nameIndex := 86, descriptorIndex := 77, attributes := #[] }, { accessFlags := 4122, nameIndex := 57, descriptorIndex := 58, attributes := #[] }])
  fields := #[{ name := "PRODUCE", type := (.object "com/example/epoch/epoch/protocol/ApiKey"), accessFlags := 16409, slot := 0, constantValue := 0 }, { name := "FETCH", type := (.object "com/example/epoch/epoch/protocol/ApiKey"), accessFlags := 16409, slot := 1, constantValue := 0 }, { name := "LIST_OFFSETS", type := (.object "com/example/epoch/epoch/protocol/ApiKey"), accessFlags := 16409, slot := 2, constantValue := 0 }, { name := "METADATA", type := (.object "com/example/epoch/epoch/protocol/ApiKey"), accessFlags := 16409, slot := 3, constantValue := 0 }, { name := "OFFSET_COMMIT", type := (.object "com/example/epoch/epoch/protocol/ApiKey"), accessFlags := 16409, slot := 4, constantValue := 0 }, { name := "OFFSET_FETCH", type := (.object "com/example/epoch/epoch/protocol/ApiKey"), accessFlags := 16409, slot := 5, constantValue := 0 }, { name := "FIND_COORDINATOR", type := (.object "com/example/epoch/epoch/protocol/ApiKey"), accessFlags := 16409, slot := 6, constantValue := 0 }, { name := "JOIN_GROUP", type := (.object "com/example/epoch/epoch/protocol/ApiKey"), accessFlags := 16409, slot := 7, constantValue := 0 }, { name := "HEARTBEAT", type := (.object "com/example/epoch/epoch/protocol/ApiKey"), accessFlags := 16409, slot := 8, constantValue := 0 }, { name := "LEAVE_GROUP", type := (.object "com/example/epoch/epoch/protocol/ApiKey"), accessFlags := 16409, slot := 9, constantValue := 0 }, { name := "SYNC_GROUP", type := (.object "com/example/epoch/epoch/protocol/ApiKey"), accessFlags := 16409, slot := 10, constantValue := 0 }, { name := "API_VERSIONS", type := (.object "com/example/epoch/epoch/protocol/ApiKey"), accessFlags := 16409, slot := 11, constantValue := 0 }, { name := "INIT_PRODUCER_ID", type := (.object "com/example/epoch/epoch/protocol/ApiKey"), accessFlags := 16409, slot := 12, constantValue := 0 }, { name := "ADD_PARTITIONS_TO_TXN", type := (.object "com/example/epoch/epoch/protocol/ApiKey"), accessFlags := 16409, slot := 13, constantValue := 0 }, { name := "ADD_OFFSETS_TO_TXN", type := (.object "com/example/epoch/epoch/protocol/ApiKey"), accessFlags := 16409, slot := 14, constantValue := 0 }, { name := "END_TXN", type := (.object "com/example/epoch/epoch/protocol/ApiKey"), accessFlags := 16409, slot := 15, constantValue := 0 }, { name := "TXN_OFFSET_COMMIT", type := (.object "com/example/epoch/epoch/protocol/ApiKey"), accessFlags := 16409, slot := 16, constantValue := 0 }, { name := "code", type := .short, accessFlags := 18, slot := 3, constantValue := 0 }, { name := "minVersion", type := .short, accessFlags := 18, slot := 4, constantValue := 0 }, { name := "maxVersion", type := .short, accessFlags := 18, slot := 5, constantValue := 0 }, { name := "firstFlexibleVersion", type := .short, accessFlags := 18, slot := 6, constantValue := 0 }, { name := "$VALUES", type := (.array (.object "com/example/epoch/epoch/protocol/ApiKey")), accessFlags := 4122, slot := 17, constantValue := 0 }]
  methods := #[k6m0]
  instanceTypes := #[(.object "java/lang/String"), .int, .int, .short, .short, .short, .short]
  staticTypes := #[(.object "com/example/epoch/epoch/protocol/ApiKey"), (.object "com/example/epoch/epoch/protocol/ApiKey"), (.object "com/example/epoch/epoch/protocol/ApiKey"), (.object "com/example/epoch/epoch/protocol/ApiKey"), (.object "com/example/epoch/epoch/protocol/ApiKey"), (.object "com/example/epoch/epoch/protocol/ApiKey"), (.object "com/example/epoch/epoch/protocol/ApiKey"), (.object "com/example/epoch/epoch/protocol/ApiKey"), (.object "com/example/epoch/epoch/protocol/ApiKey"), (.object "com/example/epoch/epoch/protocol/ApiKey"), (.object "com/example/epoch/epoch/protocol/ApiKey"), (.object "com/example/epoch/epoch/protocol/ApiKey"), (.object "com/example/epoch/epoch/protocol/ApiKey"), (.object "com/example/epoch/epoch/protocol/ApiKey"), (.object "com/example/epoch/epoch/protocol/ApiKey"), (.object "com/example/epoch/epoch/protocol/ApiKey"), (.object "com/example/epoch/epoch/protocol/ApiKey"), (.array (.object "com/example/epoch/epoch/protocol/ApiKey"))]
  resolved := Array.replicate 132 none
  statics := some 0 }

def pool7 : Array CpInfo := pool [(1, u "java/lang/Cloneable"), (0, .class_ 1), (0, u "java/lang/Object"), (0, .class_ 3)] 3

/-- java/lang/Cloneable -/
def k7 : Class := { plain "java/lang/Cloneable" (some 0) with
  accessFlags := 1537
  interfaces := #[]
  cf := some (fileOf pool7 2 #[] #[] 1537 4 #[] #[])
  fields := #[]
  methods := #[]
  instanceTypes := #[]
  staticTypes := #[]
  resolved := Array.replicate 8 none
  statics := none }

/-- the primitive byte -/
def k8 : Class := { plain "byte" none with kind := .primitive 'B', accessFlags := 0x411 }
/-- [B -/
def k9 : Class := { plain "[B" (some 0) with kind := .array 8 .byte, interfaces := #[7, 4], accessFlags := 1041 }

/-- the primitive int -/
def k10 : Class := { plain "int" none with kind := .primitive 'I', accessFlags := 0x411 }
/-- [I -/
def k11 : Class := { plain "[I" (some 0) with kind := .array 10 .int, interfaces := #[7, 4], accessFlags := 1041 }

/-- [Lcom/example/epoch/epoch/protocol/ApiKey; -/
def k12 : Class := { plain "[Lcom/example/epoch/epoch/protocol/ApiKey;" (some 0) with kind := .array 6 (.object "com/example/epoch/epoch/protocol/ApiKey"), interfaces := #[7, 4], accessFlags := 1041 }

def heap : Heap := #[{ cls := 6, slots := #[.ref 1, .ref 2, .ref 3, .ref 4, .ref 5, .ref 6, .ref 7, .ref 8, .ref 9, .ref 10, .ref 11, .ref 12, .ref 13, .ref 14, .ref 15, .ref 16, .ref 17, .null], vm := .statics 6 },
  { cls := 6, slots := #[.null, .int 0, .int 0, .int 0, .int 3, .int 7, .int 0], vm := .none },
  { cls := 6, slots := #[.null, .int 0, .int 0, .int 0, .int 4, .int 11, .int 0], vm := .none },
  { cls := 6, slots := #[.null, .int 0, .int 0, .int 0, .int 1, .int 2, .int 0], vm := .none },
  { cls := 6, slots := #[.null, .int 0, .int 0, .int 0, .int 0, .int 4, .int 0], vm := .none },
  { cls := 6, slots := #[.null, .int 0, .int 0, .int 0, .int 0, .int 7, .int 0], vm := .none },
  { cls := 6, slots := #[.null, .int 0, .int 0, .int 0, .int 0, .int 7, .int 0], vm := .none },
  { cls := 6, slots := #[.null, .int 0, .int 0, .int 0, .int 0, .int 2, .int 0], vm := .none },
  { cls := 6, slots := #[.null, .int 0, .int 0, .int 0, .int 0, .int 5, .int 0], vm := .none },
  { cls := 6, slots := #[.null, .int 0, .int 0, .int 0, .int 0, .int 3, .int 0], vm := .none },
  { cls := 6, slots := #[.null, .int 0, .int 0, .int 0, .int 0, .int 1, .int 0], vm := .none },
  { cls := 6, slots := #[.null, .int 0, .int 0, .int 0, .int 0, .int 3, .int 0], vm := .none },
  { cls := 6, slots := #[.null, .int 0, .int 0, .int 0, .int 0, .int 3, .int 0], vm := .none },
  { cls := 6, slots := #[.null, .int 0, .int 0, .int 0, .int 0, .int 4, .int 0], vm := .none },
  { cls := 6, slots := #[.null, .int 0, .int 0, .int 0, .int 0, .int 0, .int 0], vm := .none },
  { cls := 6, slots := #[.null, .int 0, .int 0, .int 0, .int 0, .int 0, .int 0], vm := .none },
  { cls := 6, slots := #[.null, .int 0, .int 0, .int 0, .int 0, .int 1, .int 0], vm := .none },
  { cls := 6, slots := #[.null, .int 0, .int 0, .int 0, .int 0, .int 3, .int 0], vm := .none }]
def classes : Array Class := #[k0, k1, k2, k3, k4, k5, k6, k7, k8, k9, k10, k11, k12]
def interned : List (Array UInt16 × Addr) := []
def slotsUsed : Nat := 137
def theMethod : MethodId := ⟨1, 1⟩
def args0 : Array Value := #[.int 5, .int 6, .int 7]
def aboutOver (below : List Frame) : State where
  vm := { classes := classes, interned := interned.toArray }
  heap := heap
  slotsUsed := slotsUsed
  threads := #[{ frames := .invoking theMethod args0 :: below }]
def below0 : List Frame := [.native { method := ⟨0, 0⟩, args := #[] }]
def about1 : State := aboutOver below0
def p0 : Program := .bare "" "" ""
def e0 : Env := launch0.env 0 0 0
theorem w_frames : about1.frames = Frame.invoking theMethod args0 :: below0 := rfl
set_option maxRecDepth 65536 in
theorem w_args : argsFit about1.vm theMethod args0 = true := by decide +kernel
set_option maxRecDepth 65536 in
theorem w_heap : heapFits about1 = true := by decide +kernel
set_option maxRecDepth 65536 in
theorem w_runnable : about1.curStatus? = some .runnable := by decide +kernel
set_option maxRecDepth 65536 in
theorem w_alone : about1.alone = true := by decide +kernel
set_option maxRecDepth 65536 in
theorem w_named : about1.methodNamed? x = some theMethod := by decide +kernel
set_option maxRecDepth 65536 in
theorem w_hears : about1.hears theMethod below0 = true := by decide +kernel
set_option maxRecDepth 65536 in
theorem w_ripe : about1.ripe theMethod args0 below0 = true := by decide +kernel
theorem w_running : about1.status = .running := rfl
set_option maxRecDepth 65536 in
theorem w_room : about1.hasRoom e0.platform room_1 = true :=
  launch0.hasRoom_least _ room_1 (by decide +kernel) (by decide +kernel) (by decide +kernel) (by decide +kernel) (by decide +kernel) (by decide +kernel)
theorem allAtoms_all (ts : List Jvm.Cond) (a : Array Jvm.Value) (st : Jvm.State) : (allAtoms ts).before a st = ts.all (fun c => c.before a st) := by
  induction ts with
  | nil => rfl
  | cons c t ih =>
    show (Jvm.Cond.and c (allAtoms t)).before a st = _
    rw [Jvm.Cond.before_and, ih, List.all_cons]
def words1 : List Jvm.Cond := Jvm.Cond.code x code maxLocals ret :: tables_1
/-- a 'code' word, met by the world's own term for the bytes: nothing is compared byte by byte -/
theorem code_word {y : MethodName} {bytes : ByteArray} {mx : Nat} {rt : Option FieldType} {a : Array Value} {s : State} {m : MethodId} {meth : Method} {c : Code} (h1 : s.methodNamed? y = some m) (h2 : s.vm.method? m = some meth) (h3 : meth.code = some c) (h4 : c.code = bytes)
    (h5 : (c.maxLocals == mx && c.exceptionTable.isEmpty && decide (c.maxStack ≤ mostOperands) && decide (meth.sig.returnType = rt) && !meth.locks && decide (parseMethodDescriptor y.desc = some meth.sig)) = true) : (Jvm.Cond.code y bytes mx rt).before a s = true := by
  simp only [Bool.and_eq_true, beq_iff_eq, Bool.not_eq_true', decide_eq_true_eq] at h5
  obtain ⟨⟨⟨⟨⟨g1, g2⟩, g3⟩, g4⟩, g5⟩, g6⟩ := h5
  simp [Cond.before, Cond.holds, Cond.value, h1, h2, h3, h4, g1, g2, g3, g4, g5, g6]
def isCode : Jvm.Cond → Bool
  | .code _ _ _ _ => true
  | _ => false
theorem all_split {L : List Jvm.Cond} {P : Jvm.Cond → Bool} (h1 : L.all (fun c => isCode c || P c) = true) (h2 : ∀ c ∈ L.filter isCode, P c = true) : L.all P = true := by
  refine List.all_eq_true.mpr fun c hc => ?_
  have h := List.all_eq_true.mp h1 c hc
  rcases Bool.eq_false_or_eq_true (isCode c) with hi | hi
  · exact h2 c (List.mem_filter.mpr ⟨hc, hi⟩)
  · simpa [hi] using h
set_option maxRecDepth 65536 in
theorem w_c0 : (Jvm.Cond.code x code maxLocals ret).before args0 about1 = true := code_word (m := ⟨1, 1⟩) (meth := k1m1) (c := k1c1) (by decide +kernel) rfl rfl rfl (by decide +kernel)
set_option maxRecDepth 65536 in
theorem w_c1 : (Jvm.Cond.code ({ cls := "com/example/epoch/epoch/protocol/ApiKey", name := "supports", desc := "(S)Z" } : Jvm.MethodName) prog_37_method_8_code (2 : Nat) (Option.some Jvm.ClassFile.FieldType.boolean)).before args0 about1 = true := code_word (m := ⟨6, 0⟩) (meth := k6m0) (c := k6c0) (by decide +kernel) rfl rfl rfl (by decide +kernel)
def codes1 : List Jvm.Cond := [Jvm.Cond.code x code maxLocals ret, Jvm.Cond.code ({ cls := "com/example/epoch/epoch/protocol/ApiKey", name := "supports", desc := "(S)Z" } : Jvm.MethodName) prog_37_method_8_code (2 : Nat) (Option.some Jvm.ClassFile.FieldType.boolean)]
set_option maxRecDepth 65536 in
theorem codes_eq : words1.filter isCode = codes1 := rfl
theorem w_codes : ∀ c ∈ words1.filter isCode, c.before args0 about1 = true := by
  rw [codes_eq]
  intro c hc
  simp only [codes1, List.mem_cons, List.not_mem_nil, or_false] at hc
  rcases hc with rfl | rfl
  · exact w_c0
  · exact w_c1
set_option maxRecDepth 65536 in
theorem w_t1 : (words1.take 24).all (fun c => isCode c || c.before args0 about1) = true := by decide +kernel
set_option maxRecDepth 65536 in
theorem w_t2 : ((words1.drop 24).take 24).all (fun c => isCode c || c.before args0 about1) = true := by decide +kernel
set_option maxRecDepth 65536 in
theorem w_t3 : ((words1.drop 24).drop 24).all (fun c => isCode c || c.before args0 about1) = true := by decide +kernel
theorem w_tables : (allAtoms (Jvm.Cond.code x code maxLocals ret :: tables_1)).before args0 about1 = true := by
  rw [allAtoms_all]
  show words1.all (fun c => c.before args0 about1) = true
  refine all_split ?_ w_codes
  rw [← List.take_append_drop 24 words1, List.all_append, w_t1, ← List.take_append_drop 24 (words1.drop 24), List.all_append, w_t2, w_t3]
  rfl
set_option maxRecDepth 65536 in
theorem w_case : (Jvm.Cond.and given_1 narrow_1).before args0 about1 = true := by decide +kernel
theorem w_applies : (headSpec (Jvm.Cond.code x code maxLocals ret :: tables_1) room_1).applies x e0.platform about1 = true :=
  (Spec.applies_iff w_frames).mpr ⟨w_running, w_runnable, w_alone, w_named, w_hears, w_ripe, w_room, w_tables⟩
theorem atStart : AtStart classFile x code maxLocals ret World_1 tables_1 room_1 Calls_1 rest_1 Pre_1 launch0 p0 e0 about1 theMethod args0 below0 :=
  ⟨lists_1, trivial, launch0.admits_env _ _ _, launch0.least_env, fairChoices_fair.cas, fairChoices_fair.clock, w_frames, w_args, w_heap, w_applies, trivial, trivial, w_case⟩
end start1
theorem witness_1 : WitnessClaimed_1 := ⟨start1.p0, start1.e0, start1.about1, start1.theMethod, start1.args0, start1.below0, start1.atStart⟩
end Jvm.Pilot.@@N@@
